/- FnVictimRotationAndFirstWrite: the walk. -/
import Derived.Test.Qxb6628306aCallees
namespace Go.Proofs.Qxb6628306a
open Go.RowKit

theorem rot_big (ao : Option Addr) (n cap : Nat) (c s : Int) (w : World) (hm : n ≤ maxLen) (hn : ¬ n ≤ 65536) :
    Calls Try.prog 3 #[.slice ao n cap, .int .i64 c, .int .i64 s] w fun e w' => e = .returned (.bool true) ∧ Below w.heap.size w w' := by
  unfold maxLen at hm
  by_cases h : n ≤ 1048576
  · have h1 : ¬ (1048576 : Int) < (n : Int) := by omega
    have h2 : (65536 : Int) < (n : Int) := by omega
    go_enter Try.func3, Try.ntmps3
    go_wp2
    go_ret
    exact ⟨rfl, Below.refl _ _⟩
  · have h1 : (1048576 : Int) < (n : Int) := by omega
    go_enter Try.func3, Try.ntmps3
    go_wp2
    go_ret
    exact ⟨rfl, Below.refl _ _⟩

theorem rot_closer_out (ao : Option Addr) (n cap : Nat) (c s : Int) (w : World) (hn : n ≤ 65536) (h0 : 0 < n) (hc : c < 0 ∨ (n : Int) ≤ c) :
    Calls Try.prog 3 #[.slice ao n cap, .int .i64 c, .int .i64 s] w fun e w' => e = .returned (.bool true) ∧ Below w.heap.size w w' := by
  have h1 : (0 : Int) < (n : Int) := by omega
  rcases hc with hc | hc
  · go_enter Try.func3, Try.ntmps3
    go_wp2
    go_ret
    exact ⟨rfl, Below.refl _ _⟩
  · have hc' : ¬ c < 0 := by omega
    go_enter Try.func3, Try.ntmps3
    go_wp2
    go_ret
    exact ⟨rfl, Below.refl _ _⟩

theorem rot_s_out (ao : Option Addr) (n cap : Nat) (c s : Int) (w : World) (hn : n ≤ 65536) (h0 : 0 < n) (hc0 : 0 ≤ c) (hc1 : c < n) (hs : s < 0 ∨ (n : Int) ≤ s) :
    Calls Try.prog 3 #[.slice ao n cap, .int .i64 c, .int .i64 s] w fun e w' => e = .returned (.bool true) ∧ Below w.heap.size w w' := by
  have h1 : (0 : Int) < (n : Int) := by omega
  have hc' : ¬ c < 0 := by omega
  have hc2 : ¬ (n : Int) ≤ c := by omega
  rcases hs with hs | hs
  · go_enter Try.func3, Try.ntmps3
    go_wp2
    go_ret
    exact ⟨rfl, Below.refl _ _⟩
  · have hs' : ¬ s < 0 := by omega
    go_enter Try.func3, Try.ntmps3
    go_wp2
    go_ret
    exact ⟨rfl, Below.refl _ _⟩

theorem rot_zero (ao : Option Addr) (cap : Nat) (c s : Int) (w : World) :
    Calls Try.prog 3 #[.slice ao 0 cap, .int .i64 c, .int .i64 s] w fun e w' => e = .returned (.bool true) ∧ Below w.heap.size w w' := by
  go_enter Try.func3, Try.ntmps3
  go_wp2_with (go_at_call 5; go_in)
  refine (build_none ao cap w).mono ?_
  rintro e w1 ⟨rfl, b1⟩
  go_wp2_with fail
  refine (victim_none _ _ c w1).mono ?_
  rintro e w2 ⟨rfl, rfl⟩
  go_wp2_with fail
  refine (any_none ao cap w2).mono ?_
  rintro e w3 ⟨rfl, rfl⟩
  go_wp2_with fail
  go_ret
  exact ⟨rfl, b1⟩

set_option maxHeartbeats 1000000 in
theorem rot_main (b off n cap c s : Nat) (f : Nat → Bool) (w : World) (hn : n ≤ 65536) (hc : c < n) (hs : s < n) (hf : Flags w b off n f) :
    Calls Try.prog 3 #[.slice (some ⟨b, off, none⟩) n cap, .int .i64 c, .int .i64 s] w fun e w' => e = .returned (.bool true) ∧ Below w.heap.size w w' := by
  have h1 : (0 : Int) < (n : Int) := by omega
  have hc1 : ¬ (c : Int) < 0 := by omega
  have hc2 : ¬ (n : Int) ≤ c := by omega
  have hs1 : ¬ (s : Int) < 0 := by omega
  have hs2 : ¬ (n : Int) ≤ s := by omega
  have HF : Hid (Flags w b off n f) := hf
  clear hf
  go_enter Try.func3, Try.ntmps3
  go_wp2_with (go_at_call 5; go_in)
  refine (build_any b off n cap f w hn HF.out).mono ?_
  rintro e w1 ⟨rfl, wt1, b1⟩
  have HF1 : Hid (Flags w1 b off n f) := HF.out.later b1
  go_wp2_with fail
  refine (victim_any w.heap.size n c f w1 hn hc wt1).mono ?_
  rintro e w2 ⟨⟨r1, rfl, v1⟩, rfl⟩
  go_wp2_with fail
  obtain ⟨u, hu⟩ : ∃ u : Nat → Bool, ∀ i, u i = f ((i + s) % n) := ⟨_, fun _ => rfl⟩
  have HU : Hid (∀ i, u i = f ((i + s) % n)) := hu
  clear hu
  obtain ⟨i0, hi, hz0, hz1, hz2⟩ := info_parts info4
  rcases v1 with ⟨rfl, hall⟩ | ⟨d, hd, hr, ht, hfirst⟩
  · have HA : Hid (∀ i, i < n → f ((c + i) % n) = false) := hall
    clear hall wt1
    refine (any_any b off n cap f w2 hn HF1.out).mono ?_
    rintro e w3 ⟨hany, rfl⟩
    have he : e = .returned (.bool false) := by
      rcases hany with ⟨rfl, _⟩ | ⟨_, i, hi, hti⟩
      · rfl
      · rw [all_false hc HA.out i hi] at hti; cases hti
    subst he
    clear hany
    go_wp2_with (at_make; refine wpList_make_full _ rfl _ _ 22 rfl w3.heap.size 4 i0 (.bool false) 1 Try.underlying22 hi hz0 hz1 _ _ _ _ n rfl rfl rfl rfl ?c1 ?c2 ?c3 ?_)
    case c1 => first | omega | (rw [hz2]; omega)
    case c2 => unfold maxLen; omega
    case c3 => first | exact Nat.le_refl _ | trivial
    intro w4 hown hgrow
    have hb1 : Below w3.heap.size w3 w4 := (Below.refl _ _).grown hgrow (Nat.le_refl _) (fun k hk => by cases hk)
    obtain ⟨xs0, hxs0⟩ : ∃ xs, w4.ownsRow w3.heap.size 4 1 (.slice (some ⟨w3.heap.size, 0, none⟩) n n) n xs := ⟨_, hown⟩
    clear hown hgrow hi hz0 hz1 hz2
    go_wp2_with fail
    go_loopw [12] (fun i wr => ∃ k : Nat, k ≤ n ∧ i = .int .i64 k ∧ (∃ xs, wr.ownsRow w3.heap.size 4 1 (.slice (some ⟨w3.heap.size, 0, none⟩) n n) n xs ∧ ∀ j, j < k → xs[j]? = some (.bool (u j))) ∧ Below w3.heap.size w3 wr)
      (fun i _ => n - (intOf i).toNat)
    case atStart => exact ⟨0, Nat.zero_le _, rfl, ⟨xs0, hxs0, fun j hj => by omega⟩, hb1⟩
    case round =>
      obtain ⟨k, hk, rfl, ⟨xs, hown, hx⟩, hb⟩ := hrel
      clear hxs0 hb1
      by_cases hlt : k < n
      · have hj : (k + s) % n < n := Nat.mod_lt _ (by omega)
        have hcj : wr.cell? ⟨b, off + (k + s) % n, none⟩ = some (.bool (u k)) := by rw [HU.out k]; exact HF1.out.later hb _ hj
        obtain ⟨j, ej⟩ : ∃ j, (k + s) % n = j := ⟨_, rfl⟩
        rw [ej] at hj hcj
        have ej' : ((k : Int) + (s : Int)) % (n : Int) = (j : Int) := by rw [← ej]; simp
        have hfz := hown.frozenAt k
        have hcl : ∃ v, wr.cell? ⟨w3.heap.size, k, none⟩ = some v := by
          rw [hown.cellAt k (by omega)]
          exact ⟨_, List.getElem?_eq_getElem (by have := hown.1; omega)⟩
        obtain ⟨v0, hcl⟩ := hcl
        have hst := (hown.stored k (.bool (u k))).1
        obtain ⟨uk, huk⟩ : ∃ uk, u k = uk := ⟨_, rfl⟩
        rw [huk] at hst hcj
        have HS : Hid ((wr.setCell ⟨w3.heap.size, k, none⟩ (.bool uk)).ownsRow w3.heap.size 4 1 (.slice (some ⟨w3.heap.size, 0, none⟩) n n) n (xs.set k (.bool uk)) ∧ ∀ j, j < k + 1 → (xs.set k (.bool uk))[j]? = some (.bool (u j))) := by
          refine ⟨hst, fun j hj => ?_⟩
          by_cases e : j = k
          · subst e
            rw [List.getElem?_set_self (by have := hown.1; omega), huk]
          · rw [List.getElem?_set_ne (by omega)]
            exact hx j (by omega)
        clear hst hown huk hx ej
        go_wp2_with fail
        go_roundw
        case rel => exact ⟨k + 1, by omega, by go_num, ⟨_, HS.out⟩, hb.setCell (Nat.le_refl _) _⟩
        case measure => simp [intOf]; omega
      · have hkn : k = n := by omega
        have HG : Hid (Flags wr w3.heap.size 0 n u) := by
          intro i hi
          rw [Nat.zero_add, hown.cellAt i (by omega)]
          exact hx i (by omega)
        clear hown hx
        subst hkn
        obtain ⟨c2, ec2⟩ : ∃ c2, (c + k - s) % k = c2 := ⟨_, rfl⟩
        have ec : ((c : Int) - s + k) % k = (c2 : Int) := by rw [← ec2]; exact rot_closer hc hs
        have hc3 : c2 < k := by rw [← ec2]; exact Nat.mod_lt _ (by omega)
        have HC : Hid ((c + k - s) % k = c2) := ec2
        clear ec2
        go_wp2_with fail
        refine (build_any w3.heap.size 0 k k u wr hn HG.out).mono ?_
        rintro e w5 ⟨rfl, wt5, b5⟩
        have B5 : Hid (Below w.heap.size w w5) := (b1.trans (hb.mono b1.size)).trans (b5.mono (Nat.le_trans b1.size hb.size))
        go_wp2_with fail
        refine (victim_any wr.heap.size k c2 u w5 hn hc3 wt5).mono ?_
        rintro e w6 ⟨⟨r2, rfl, v2⟩, rfl⟩
        rw [← HC.out] at v2
        have hr2 : r2 = -1 := rot_none hc hs HU.out HA.out v2
        subst hr2
        go_wp2_with fail
        go_ret
        exact ⟨rfl, B5.out⟩
  · obtain ⟨j1, hj1⟩ : ∃ j, (c + d) % n = j := ⟨_, rfl⟩
    have hjn : j1 < n := by rw [← hj1]; exact Nat.mod_lt _ (by omega)
    have HA : Hid ((∀ i, i < d → f ((c + i) % n) = false) ∧ f ((c + d) % n) = true ∧ (c + d) % n = j1) := ⟨hfirst, ht, hj1⟩
    rw [hj1] at hr
    subst hr
    have hcj1 : w2.cell? ⟨b, off + j1, none⟩ = some (.bool true) := by
      have h := HF1.out j1 hjn
      rw [← hj1, ht, hj1] at h
      exact h
    clear hfirst ht hj1 wt1
    refine (any_any b off n cap f w2 hn HF1.out).mono ?_
    rintro e w3 ⟨hany, rfl⟩
    have he : e = .returned (.bool true) := by
      rcases hany with ⟨_, h⟩ | ⟨rfl, _⟩
      · have h2 := h j1 hjn
        rw [← HA.out.2.2, HA.out.2.1] at h2; cases h2
      · rfl
    subst he
    clear hany
    have hj0 : ¬ (j1 : Int) < 0 := by omega
    have hj2 : ¬ (n : Int) ≤ j1 := by omega
    go_wp2_with fail
    refine (dist_any c j1 n w3 hc hjn hn).mono ?_
    have hdist := dist_at hc hd
    rw [HA.out.2.2] at hdist
    rintro e w4 ⟨rfl, rfl⟩
    rw [hdist]
    clear hdist
    go_wp2_with fail
    go_loop [10] (fun i => ∃ t : Nat, t ≤ d ∧ i = .int .i64 t) (fun i => d - (intOf i).toNat)
    case atStart => exact ⟨0, Nat.zero_le _, rfl⟩
    case round =>
    obtain ⟨t, htd, rfl⟩ := hrel
    by_cases htl : t < d
    · have hj : (c + t) % n < n := Nat.mod_lt _ (by omega)
      have hct : w4.cell? ⟨b, off + (c + t) % n, none⟩ = some (.bool false) := by
        have h := HF1.out _ hj
        rw [HA.out.1 t htl] at h
        exact h
      obtain ⟨j, ej⟩ : ∃ j, (c + t) % n = j := ⟨_, rfl⟩
      rw [ej] at hj hct
      have ej' : ((c : Int) + (t : Int)) % (n : Int) = (j : Int) := by rw [← ej]; simp
      clear ej
      go_wp2_with fail
      go_round
      case rel => exact ⟨t + 1, by omega, by go_num⟩
      case measure => simp [intOf]; omega
    have htd' : t = d := by omega
    subst htd'
    clear hcj1 htl htd
    go_wp2_with (at_make; refine wpList_make_full _ rfl _ _ 22 rfl w4.heap.size 4 i0 (.bool false) 1 Try.underlying22 hi hz0 hz1 _ _ _ _ n rfl rfl rfl rfl ?c1 ?c2 ?c3 ?_)
    case c1 => first | omega | (rw [hz2]; omega)
    case c2 => unfold maxLen; omega
    intro w4' hown hgrow
    have hb1 : Below w4.heap.size w4 w4' := (Below.refl _ _).grown hgrow (Nat.le_refl _) (fun k hk => by cases hk)
    obtain ⟨xs0, hxs0⟩ : ∃ xs, w4'.ownsRow w4.heap.size 4 1 (.slice (some ⟨w4.heap.size, 0, none⟩) n n) n xs := ⟨_, hown⟩
    clear hown hgrow hi hz0 hz1 hz2
    go_wp2_with fail
    go_loopw [12] (fun i wr => ∃ k : Nat, k ≤ n ∧ i = .int .i64 k ∧ (∃ xs, wr.ownsRow w4.heap.size 4 1 (.slice (some ⟨w4.heap.size, 0, none⟩) n n) n xs ∧ ∀ j, j < k → xs[j]? = some (.bool (u j))) ∧ Below w4.heap.size w4 wr)
      (fun i _ => n - (intOf i).toNat)
    case atStart => exact ⟨0, Nat.zero_le _, rfl, ⟨xs0, hxs0, fun j hj => by omega⟩, hb1⟩
    case round =>
      obtain ⟨k, hk, rfl, ⟨xs, hown, hx⟩, hb⟩ := hrel
      clear hxs0 hb1
      by_cases hlt : k < n
      · have hj : (k + s) % n < n := Nat.mod_lt _ (by omega)
        have hcj : wr.cell? ⟨b, off + (k + s) % n, none⟩ = some (.bool (u k)) := by rw [HU.out k]; exact HF1.out.later hb _ hj
        obtain ⟨j, ej⟩ : ∃ j, (k + s) % n = j := ⟨_, rfl⟩
        rw [ej] at hj hcj
        have ej' : ((k : Int) + (s : Int)) % (n : Int) = (j : Int) := by rw [← ej]; simp
        have hfz := hown.frozenAt k
        have hcl : ∃ v, wr.cell? ⟨w4.heap.size, k, none⟩ = some v := by
          rw [hown.cellAt k (by omega)]
          exact ⟨_, List.getElem?_eq_getElem (by have := hown.1; omega)⟩
        obtain ⟨v0, hcl⟩ := hcl
        have hst := (hown.stored k (.bool (u k))).1
        obtain ⟨uk, huk⟩ : ∃ uk, u k = uk := ⟨_, rfl⟩
        rw [huk] at hst hcj
        have HS : Hid ((wr.setCell ⟨w4.heap.size, k, none⟩ (.bool uk)).ownsRow w4.heap.size 4 1 (.slice (some ⟨w4.heap.size, 0, none⟩) n n) n (xs.set k (.bool uk)) ∧ ∀ j, j < k + 1 → (xs.set k (.bool uk))[j]? = some (.bool (u j))) := by
          refine ⟨hst, fun j hj => ?_⟩
          by_cases e : j = k
          · subst e
            rw [List.getElem?_set_self (by have := hown.1; omega), huk]
          · rw [List.getElem?_set_ne (by omega)]
            exact hx j (by omega)
        clear hst hown huk hx ej
        go_wp2_with fail
        go_roundw
        case rel => exact ⟨k + 1, by omega, by go_num, ⟨_, HS.out⟩, hb.setCell (Nat.le_refl _) _⟩
        case measure => simp [intOf]; omega
      · have hkn : k = n := by omega
        have HG : Hid (Flags wr w4.heap.size 0 n u) := by
          intro i hi
          rw [Nat.zero_add, hown.cellAt i (by omega)]
          exact hx i (by omega)
        clear hown hx
        subst hkn
        obtain ⟨c2, ec2⟩ : ∃ c2, (c + k - s) % k = c2 := ⟨_, rfl⟩
        have ec : ((c : Int) - s + k) % k = (c2 : Int) := by rw [← ec2]; exact rot_closer hc hs
        have hc3 : c2 < k := by rw [← ec2]; exact Nat.mod_lt _ (by omega)
        have HC : Hid ((c + k - s) % k = c2) := ec2
        clear ec2
        go_wp2_with fail
        refine (build_any w4.heap.size 0 k k u wr hn HG.out).mono ?_
        rintro e w5 ⟨rfl, wt5, b5⟩
        have B5 : Hid (Below w.heap.size w w5) := (b1.trans (hb.mono b1.size)).trans (b5.mono (Nat.le_trans b1.size hb.size))
        go_wp2_with fail
        refine (victim_any wr.heap.size k c2 u w5 hn hc3 wt5).mono ?_
        rintro e w6 ⟨⟨r2, rfl, v2⟩, rfl⟩
        rw [← HC.out] at v2
        have hr2 := rot_some hc hs HU.out hd HA.out.2.2 HA.out.2.1 HA.out.1 v2
        subst hr2
        go_wp2_with fail
        go_ret
        exact ⟨rfl, B5.out⟩

end Go.Proofs.Qxb6628306a
