/- FnVictimOneMoreWrite: the walk. -/
import Derived.Test.Qxb6628306aCallees
namespace Go.Proofs.Qxb6628306a
open Go.RowKit

theorem more_big (ao : Option Addr) (n cap : Nat) (c k : Int) (w : World) (hm : n ≤ maxLen) (hn : ¬ n ≤ 65536) :
    Calls Try.prog 4 #[.slice ao n cap, .int .i64 c, .int .i64 k] w fun e w' => e = .returned (.bool true) ∧ Below w.heap.size w w' := by
  unfold maxLen at hm
  by_cases h : n ≤ 1048576
  · have h1 : ¬ (1048576 : Int) < (n : Int) := by omega
    have h2 : (65536 : Int) < (n : Int) := by omega
    go_enter Try.func4, Try.ntmps4
    go_wp2
    go_ret
    exact ⟨rfl, Below.refl _ _⟩
  · have h1 : (1048576 : Int) < (n : Int) := by omega
    go_enter Try.func4, Try.ntmps4
    go_wp2
    go_ret
    exact ⟨rfl, Below.refl _ _⟩

theorem more_closer_out (ao : Option Addr) (n cap : Nat) (c k : Int) (w : World) (hn : n ≤ 65536) (hc : c < 0 ∨ (n : Int) ≤ c) :
    Calls Try.prog 4 #[.slice ao n cap, .int .i64 c, .int .i64 k] w fun e w' => e = .returned (.bool true) ∧ Below w.heap.size w w' := by
  rcases hc with hc | hc
  · go_enter Try.func4, Try.ntmps4
    go_wp2
    go_ret
    exact ⟨rfl, Below.refl _ _⟩
  · have hc' : ¬ c < 0 := by omega
    go_enter Try.func4, Try.ntmps4
    go_wp2
    go_ret
    exact ⟨rfl, Below.refl _ _⟩

theorem more_k_out (ao : Option Addr) (n cap : Nat) (c k : Int) (w : World) (hn : n ≤ 65536) (hc0 : 0 ≤ c) (hc1 : c < n) (hk : k < 0 ∨ (n : Int) ≤ k) :
    Calls Try.prog 4 #[.slice ao n cap, .int .i64 c, .int .i64 k] w fun e w' => e = .returned (.bool true) ∧ Below w.heap.size w w' := by
  have hc' : ¬ c < 0 := by omega
  have hc2 : ¬ (n : Int) ≤ c := by omega
  rcases hk with hk | hk
  · go_enter Try.func4, Try.ntmps4
    go_wp2
    go_ret
    exact ⟨rfl, Below.refl _ _⟩
  · have hk' : ¬ k < 0 := by omega
    go_enter Try.func4, Try.ntmps4
    go_wp2
    go_ret
    exact ⟨rfl, Below.refl _ _⟩

set_option maxHeartbeats 1000000 in
theorem more_main (b off n cap c k : Nat) (f : Nat → Bool) (w : World) (hn : n ≤ 65536) (hc : c < n) (hk : k < n) (hf : Flags w b off n f) :
    Calls Try.prog 4 #[.slice (some ⟨b, off, none⟩) n cap, .int .i64 c, .int .i64 k] w fun e w' => e = .returned (.bool true) ∧ Below w.heap.size w w' := by
  have hc1 : ¬ (c : Int) < 0 := by omega
  have hc2 : ¬ (n : Int) ≤ c := by omega
  have hk1 : ¬ (k : Int) < 0 := by omega
  have hk2 : ¬ (n : Int) ≤ k := by omega
  have HF : Hid (Flags w b off n f) := hf
  clear hf
  go_enter Try.func4, Try.ntmps4
  go_wp2_with (go_at_call 10; go_in)
  refine (build_any b off n cap f w hn HF.out).mono ?_
  rintro e w1 ⟨rfl, wt1, b1⟩
  have HF1 : Hid (Flags w1 b off n f) := HF.out.later b1
  go_wp2_with fail
  refine (victim_any w.heap.size n c f w1 hn hc wt1).mono ?_
  rintro e w2 ⟨⟨r1, rfl, v1⟩, rfl⟩
  go_wp2_with fail
  obtain ⟨u, hu⟩ : ∃ u : Nat → Bool, ∀ i, i < n → u i = (f i || decide (i = k)) := ⟨fun i => f i || decide (i = k), fun _ _ => rfl⟩
  have HU : Hid (∀ i, i < n → u i = (f i || decide (i = k))) := hu
  clear hu
  obtain ⟨i0, hi, hz0, hz1, hz2⟩ := info_parts info4
  rcases v1 with ⟨rfl, hall⟩ | ⟨d, hd, hr, ht, hfirst⟩
  · have HA : Hid (∀ i, i < n → f ((c + i) % n) = false) := hall
    clear hall wt1
    refine (any_any b off n cap f w2 hn HF1.out).mono ?_
    rintro e w3 ⟨hany, rfl⟩
    have he : e = .returned (.bool false) := by
      rcases hany with ⟨rfl, _⟩ | ⟨_, i, hi, hti⟩
      · rfl
      · rw [all_false hc HA.out i hi] at hti; cases hti
    subst he
    clear hany
    go_wp2_with (at_make; refine wpList_make_full _ rfl _ _ 22 rfl w3.heap.size 4 i0 (.bool false) 1 Try.underlying22 hi hz0 hz1 _ _ _ _ n rfl rfl rfl rfl ?c1 ?c2 ?c3 ?_)
    case c1 => first | omega | (rw [hz2]; omega)
    case c2 => unfold maxLen; omega
    case c3 => exact Nat.le_refl _
    intro w4 hown hgrow
    have hb1 : Below w3.heap.size w3 w4 := (Below.refl _ _).grown hgrow (Nat.le_refl _) (fun k hk => by cases hk)
    obtain ⟨xs0, hxs0⟩ : ∃ xs, w4.ownsRow w3.heap.size 4 1 (.slice (some ⟨w3.heap.size, 0, none⟩) n n) n xs := ⟨_, hown⟩
    clear hown hgrow hi hz0 hz1 hz2
    go_wp2_with fail
    go_loopw [10] (fun i wr => ∃ t : Nat, t ≤ n ∧ i = .int .i64 t ∧ (∃ xs, wr.ownsRow w3.heap.size 4 1 (.slice (some ⟨w3.heap.size, 0, none⟩) n n) n xs ∧ ∀ j, j < t → xs[j]? = some (.bool (f j))) ∧ Below w3.heap.size w3 wr)
      (fun i _ => n - (intOf i).toNat)
    case atStart => exact ⟨0, Nat.zero_le _, rfl, ⟨xs0, hxs0, fun j hj => by omega⟩, hb1⟩
    case round =>
      obtain ⟨t, ht, rfl, ⟨xs, hown, hx⟩, hb⟩ := hrel
      clear hxs0 hb1
      by_cases hlt : t < n
      · have hcj : wr.cell? ⟨b, off + t, none⟩ = some (.bool (f t)) := HF1.out.later hb _ hlt
        have hfz := hown.frozenAt t
        have hcl : ∃ v, wr.cell? ⟨w3.heap.size, t, none⟩ = some v := by
          rw [hown.cellAt t (by omega)]
          exact ⟨_, List.getElem?_eq_getElem (by have := hown.1; omega)⟩
        obtain ⟨v0, hcl⟩ := hcl
        have hst := (hown.stored t (.bool (f t))).1
        obtain ⟨uk, huk⟩ : ∃ uk, f t = uk := ⟨_, rfl⟩
        rw [huk] at hst hcj
        have HS : Hid ((wr.setCell ⟨w3.heap.size, t, none⟩ (.bool uk)).ownsRow w3.heap.size 4 1 (.slice (some ⟨w3.heap.size, 0, none⟩) n n) n (xs.set t (.bool uk)) ∧ ∀ j, j < t + 1 → (xs.set t (.bool uk))[j]? = some (.bool (f j))) := by
          refine ⟨hst, fun j hj => ?_⟩
          by_cases e : j = t
          · subst e
            rw [List.getElem?_set_self (by have := hown.1; omega), huk]
          · rw [List.getElem?_set_ne (by omega)]
            exact hx j (by omega)
        clear hst hown huk hx
        go_wp2_with fail
        go_roundw
        case rel => exact ⟨t + 1, by omega, by go_num, ⟨_, HS.out⟩, hb.setCell (Nat.le_refl _) _⟩
        case measure => simp [intOf]; omega
      · have htn : t = n := by omega
        subst htn
        have hfz := hown.frozenAt k
        have hcl : ∃ v, wr.cell? ⟨w3.heap.size, k, none⟩ = some v := by
          rw [hown.cellAt k (by omega)]
          exact ⟨_, List.getElem?_eq_getElem (by have := hown.1; omega)⟩
        obtain ⟨v0, hcl⟩ := hcl
        have hst := (hown.stored k (.bool true)).1
        have HG : Hid (Flags (wr.setCell ⟨w3.heap.size, k, none⟩ (.bool true)) w3.heap.size 0 t u) := by
          intro i hi
          rw [Nat.zero_add, hst.cellAt i (by omega), HU.out i hi]
          by_cases e : i = k
          · subst e
            rw [List.getElem?_set_self (by have := hown.1; omega)]
            simp
          · rw [List.getElem?_set_ne (by omega), hx i hi]
            simp [e]
        have hbs : Below w3.heap.size w3 (wr.setCell ⟨w3.heap.size, k, none⟩ (.bool true)) := hb.setCell (Nat.le_refl _) _
        have HB : Hid (Below w.heap.size w (wr.setCell ⟨w3.heap.size, k, none⟩ (.bool true)) ∧ w.heap.size ≤ (wr.setCell ⟨w3.heap.size, k, none⟩ (.bool true)).heap.size) := ⟨b1.trans (hbs.mono b1.size), Nat.le_trans b1.size hbs.size⟩
        clear hown hx hst hbs
        go_wp2_with fail
        refine (build_any w3.heap.size 0 t t u _ hn HG.out).mono ?_
        rintro e w5 ⟨rfl, wt5, b5⟩
        have hsz : (wr.setCell ⟨w3.heap.size, k, none⟩ (.bool true)).heap.size = wr.heap.size := by simp [World.setCell]
        rw [hsz] at wt5
        clear hsz
        have B5 : Hid (Below w.heap.size w w5) := HB.out.1.trans (b5.mono HB.out.2)
        go_wp2_with fail
        refine (victim_any wr.heap.size t c u w5 hn hc wt5).mono ?_
        rintro e w6 ⟨⟨r2, rfl, v2⟩, rfl⟩
        have hr2 : r2 = k := more_none hc hk HU.out HA.out v2
        subst hr2
        go_wp2_with fail
        go_ret
        exact ⟨rfl, B5.out⟩
  · obtain ⟨j1, hj1⟩ : ∃ j, (c + d) % n = j := ⟨_, rfl⟩
    have hjn : j1 < n := by rw [← hj1]; exact Nat.mod_lt _ (by omega)
    have HA : Hid ((∀ i, i < d → f ((c + i) % n) = false) ∧ f ((c + d) % n) = true ∧ (c + d) % n = j1) := ⟨hfirst, ht, hj1⟩
    rw [hj1] at hr
    subst hr
    have hcj1 : w2.cell? ⟨b, off + j1, none⟩ = some (.bool true) := by
      have h := HF1.out j1 hjn
      rw [← hj1, ht, hj1] at h
      exact h
    clear hfirst ht hj1 wt1
    refine (any_any b off n cap f w2 hn HF1.out).mono ?_
    rintro e w3 ⟨hany, rfl⟩
    have he : e = .returned (.bool true) := by
      rcases hany with ⟨_, h⟩ | ⟨rfl, _⟩
      · have h2 := h j1 hjn
        rw [← HA.out.2.2, HA.out.2.1] at h2; cases h2
      · rfl
    subst he
    clear hany
    have hj0 : ¬ (j1 : Int) < 0 := by omega
    have hj2 : ¬ (n : Int) ≤ j1 := by omega
    have hjm : ((j1 : Int) == -1) = false := by simp
    have hjm2 : ((j1 : Int) != -1) = true := by simp
    go_wp2_with (at_make; refine wpList_make_full _ rfl _ _ 22 rfl w3.heap.size 4 i0 (.bool false) 1 Try.underlying22 hi hz0 hz1 _ _ _ _ n rfl rfl rfl rfl ?c1 ?c2 ?c3 ?_)
    case c1 => first | omega | (rw [hz2]; omega)
    case c2 => unfold maxLen; omega
    case c3 => exact Nat.le_refl _
    intro w4 hown hgrow
    have hb1 : Below w3.heap.size w3 w4 := (Below.refl _ _).grown hgrow (Nat.le_refl _) (fun k hk => by cases hk)
    obtain ⟨xs0, hxs0⟩ : ∃ xs, w4.ownsRow w3.heap.size 4 1 (.slice (some ⟨w3.heap.size, 0, none⟩) n n) n xs := ⟨_, hown⟩
    clear hown hgrow hi hz0 hz1 hz2
    go_wp2_with fail
    go_loopw [10] (fun i wr => ∃ t : Nat, t ≤ n ∧ i = .int .i64 t ∧ (∃ xs, wr.ownsRow w3.heap.size 4 1 (.slice (some ⟨w3.heap.size, 0, none⟩) n n) n xs ∧ ∀ j, j < t → xs[j]? = some (.bool (f j))) ∧ Below w3.heap.size w3 wr)
      (fun i _ => n - (intOf i).toNat)
    case atStart => exact ⟨0, Nat.zero_le _, rfl, ⟨xs0, hxs0, fun j hj => by omega⟩, hb1⟩
    case round =>
      obtain ⟨t, ht, rfl, ⟨xs, hown, hx⟩, hb⟩ := hrel
      clear hxs0 hb1
      by_cases hlt : t < n
      · have hcj : wr.cell? ⟨b, off + t, none⟩ = some (.bool (f t)) := HF1.out.later hb _ hlt
        have hfz := hown.frozenAt t
        have hcl : ∃ v, wr.cell? ⟨w3.heap.size, t, none⟩ = some v := by
          rw [hown.cellAt t (by omega)]
          exact ⟨_, List.getElem?_eq_getElem (by have := hown.1; omega)⟩
        obtain ⟨v0, hcl⟩ := hcl
        have hst := (hown.stored t (.bool (f t))).1
        obtain ⟨uk, huk⟩ : ∃ uk, f t = uk := ⟨_, rfl⟩
        rw [huk] at hst hcj
        have HS : Hid ((wr.setCell ⟨w3.heap.size, t, none⟩ (.bool uk)).ownsRow w3.heap.size 4 1 (.slice (some ⟨w3.heap.size, 0, none⟩) n n) n (xs.set t (.bool uk)) ∧ ∀ j, j < t + 1 → (xs.set t (.bool uk))[j]? = some (.bool (f j))) := by
          refine ⟨hst, fun j hj => ?_⟩
          by_cases e : j = t
          · subst e
            rw [List.getElem?_set_self (by have := hown.1; omega), huk]
          · rw [List.getElem?_set_ne (by omega)]
            exact hx j (by omega)
        clear hst hown huk hx
        go_wp2_with fail
        go_roundw
        case rel => exact ⟨t + 1, by omega, by go_num, ⟨_, HS.out⟩, hb.setCell (Nat.le_refl _) _⟩
        case measure => simp [intOf]; omega
      · have htn : t = n := by omega
        subst htn
        have hfz := hown.frozenAt k
        have hcl : ∃ v, wr.cell? ⟨w3.heap.size, k, none⟩ = some v := by
          rw [hown.cellAt k (by omega)]
          exact ⟨_, List.getElem?_eq_getElem (by have := hown.1; omega)⟩
        obtain ⟨v0, hcl⟩ := hcl
        have hst := (hown.stored k (.bool true)).1
        have HG : Hid (Flags (wr.setCell ⟨w3.heap.size, k, none⟩ (.bool true)) w3.heap.size 0 t u) := by
          intro i hi
          rw [Nat.zero_add, hst.cellAt i (by omega), HU.out i hi]
          by_cases e : i = k
          · subst e
            rw [List.getElem?_set_self (by have := hown.1; omega)]
            simp
          · rw [List.getElem?_set_ne (by omega), hx i hi]
            simp [e]
        have hbs : Below w3.heap.size w3 (wr.setCell ⟨w3.heap.size, k, none⟩ (.bool true)) := hb.setCell (Nat.le_refl _) _
        have HB : Hid (Below w.heap.size w (wr.setCell ⟨w3.heap.size, k, none⟩ (.bool true)) ∧ w.heap.size ≤ (wr.setCell ⟨w3.heap.size, k, none⟩ (.bool true)).heap.size) := ⟨b1.trans (hbs.mono b1.size), Nat.le_trans b1.size hbs.size⟩
        clear hown hx hst hbs
        go_wp2_with fail
        refine (build_any w3.heap.size 0 t t u _ hn HG.out).mono ?_
        rintro e w5 ⟨rfl, wt5, b5⟩
        have hsz : (wr.setCell ⟨w3.heap.size, k, none⟩ (.bool true)).heap.size = wr.heap.size := by simp [World.setCell]
        rw [hsz] at wt5
        clear hsz
        have B5 : Hid (Below w.heap.size w w5) := HB.out.1.trans (b5.mono HB.out.2)
        go_wp2_with fail
        refine (victim_any wr.heap.size t c u w5 hn hc wt5).mono ?_
        rintro e w6 ⟨⟨r2, rfl, v2⟩, rfl⟩
        have hr2 := more_some hc hk HU.out hd HA.out.2.1 HA.out.1 v2
        rw [HA.out.2.2] at hr2
        obtain ⟨dk, hdk⟩ : ∃ dk, ((k : Int) - c + t) % t = dk := ⟨_, rfl⟩
        rw [hdk] at hr2
        have HR : Hid (((dk < (d : Int) ∧ r2 = k) ∨ ((d : Int) ≤ dk ∧ r2 = j1)) ∧ ((k : Int) - c + t) % t = dk) := ⟨hr2, hdk⟩
        clear hr2 hdk
        go_wp2_with fail
        refine (dist_any c k t w6 hc hk hn).mono ?_
        rintro e w7 ⟨rfl, rfl⟩
        rw [HR.out.2]
        go_wp2_with fail
        refine (dist_any c j1 t _ hc hjn hn).mono ?_
        have hdist := dist_at hc hd
        rw [HA.out.2.2] at hdist
        rintro e w8 ⟨rfl, rfl⟩
        rw [hdist]
        clear hdist
        have HR2 := HR.out.1
        clear HR
        rcases HR2 with ⟨hlt, rfl⟩ | ⟨hle, rfl⟩
        · go_wp2_with fail
          go_ret
          exact ⟨rfl, B5.out⟩
        · have hle' : ¬ dk < (d : Int) := by omega
          go_wp2_with fail
          go_ret
          exact ⟨rfl, B5.out⟩

end Go.Proofs.Qxb6628306a
