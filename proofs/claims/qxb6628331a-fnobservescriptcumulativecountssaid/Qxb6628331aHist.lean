/- The histogram: ZZnewHistogram, ZZcounts, ZZsumBits, zzb1SumMatches: the contracts. -/
import Derived.Test.Qxb6628331aSearch
namespace Go.Proofs.Qxb6628331a
open Go.RowKit

theorem info43 : (Try.prog.info? 43).map (fun i => (i.zero, i.size, i.bytes)) = some (some (.agg #[.int .u64 0]), 1, 8) := by kernel_rfl

theorem three0 {w : World} {b : Nat} {u v x : Value} {t : TypeId} (h : w.heap[b]? = some (.cells #[u, v, x] t (0, 0))) : w.cell? ⟨b, 0, none⟩ = some u := by simp [World.cell?, h]
theorem three1 {w : World} {b : Nat} {u v x : Value} {t : TypeId} (h : w.heap[b]? = some (.cells #[u, v, x] t (0, 0))) : w.cell? ⟨b, 1, none⟩ = some v := by simp [World.cell?, h]
theorem three2 {w : World} {b : Nat} {u v x : Value} {t : TypeId} (h : w.heap[b]? = some (.cells #[u, v, x] t (0, 0))) : w.cell? ⟨b, 2, none⟩ = some x := by simp [World.cell?, h]
theorem three_free {w : World} {b : Nat} {u v x : Value} {t : TypeId} (h : w.heap[b]? = some (.cells #[u, v, x] t (0, 0))) (j : Nat) : w.frozen? ⟨b, j, none⟩ = false := by simp [World.frozen?, h]
theorem three_set2 {w : World} {b : Nat} {u v x y : Value} {t : TypeId} (h : w.heap[b]? = some (.cells #[u, v, x] t (0, 0))) : (w.setCell ⟨b, 2, none⟩ y).heap[b]? = some (.cells #[u, v, y] t (0, 0)) := by
  rw [heap_setCell_same w b 2 _ t y h]; rfl

/-- The histogram's block is no row of buckets. -/
theorem own_ne {w : World} {base : Nat} {e t : TypeId} {size : Nat} {g n c : Nat} {xs : List Value} (h : w.ownsRow base e size (.slice (some ⟨g, 0, none⟩) n c) n xs) {p : Nat} {cs : Array Value} (hp : w.heap[p]? = some (.cells cs t (0, 0))) (hne : t ≠ e) : g ≠ p := by
  rcases h.2 with ⟨h, _⟩ | ⟨g', cap, cur, h, _, hg, _⟩
  · cases h
  · cases h
    intro he
    subst he
    rw [hg] at hp
    simp at hp
    exact hne hp.2.symm

/-- A histogram at block p: bounds, buckets at block g with the counts c, the sum s. -/
structure Hi (B : Nat) (w : World) (p g : Nat) (ao : Option Addr) (n cap m : Nat) (c : Nat → Int) (s : Int) : Prop where
  hist : w.heap[p]? = some (.cells #[.slice ao n cap, .slice (some ⟨g, 0, none⟩) m m, .int .u64 s] 45 (0, 0))
  low : B ≤ p
  own : ∃ xs, w.ownsRow B 43 1 (.slice (some ⟨g, 0, none⟩) m m) m xs ∧ ∀ i, i < m → xs[i]? = some (.int .u64 (c i))

theorem Hi.cell {B : Nat} {w : World} {p g : Nat} {ao : Option Addr} {n cap m : Nat} {c : Nat → Int} {s : Int} (h : Hi B w p g ao n cap m c s) (i : Nat) (hi : i < m) : w.cell? ⟨g, i, none⟩ = some (.int .u64 (c i)) := by
  obtain ⟨xs, h1, h2⟩ := h.own
  rw [h1.cellAt i (by omega)]
  exact h2 i hi

theorem Hi.free {B : Nat} {w : World} {p g : Nat} {ao : Option Addr} {n cap m : Nat} {c : Nat → Int} {s : Int} (h : Hi B w p g ao n cap m c s) (i : Nat) : w.frozen? ⟨g, i, none⟩ = false := by
  obtain ⟨xs, h1, h2⟩ := h.own
  exact h1.frozenAt i

set_option maxHeartbeats 1000000 in
theorem newHist_any (ao : Option Addr) (n cap cb off m cc : Nat) (c : Nat → Int) (s : Int) (w : World) (hm : m ≤ 65537) (hc : ∀ i, i < m → w.cell? ⟨cb, off + i, none⟩ = some (.int .u64 (c i))) :
    Calls Try.prog 9 #[.slice ao n cap, .slice (some ⟨cb, off, none⟩) m cc, .int .u64 s] w fun e w' => ∃ p g, e = .returned (.pointer (some ⟨p, 0, none⟩)) ∧ Hi w.heap.size w' p g ao n cap m c s ∧ Below w.heap.size w w' := by
  obtain ⟨i0, hi, hz0, hz1, hz2⟩ := info_parts info43
  go_enter Try.func9, Try.ntmps9
  go_wp2_with (at_make; refine wpList_make_full _ rfl _ _ 38 rfl w.heap.size 43 i0 (.agg #[.int .u64 0]) 1 Try.underlying38 hi hz0 hz1 _ _ _ _ m rfl rfl rfl rfl ?c1 ?c2 ?c3 ?_)
  case c1 => rw [hz2]; omega
  case c2 => unfold maxLen; omega
  case c3 => exact Nat.le_refl _
  intro w1 hown hgrow
  have hb1 : Below w.heap.size w w1 := (Below.refl _ _).grown hgrow (Nat.le_refl _) (fun k hk => by cases hk)
  obtain ⟨xs0, hxs0⟩ : ∃ xs, w1.ownsRow w.heap.size 43 1 (.slice (some ⟨w.heap.size, 0, none⟩) m m) m xs := ⟨_, hown⟩
  clear hown hgrow hi hz0 hz1 hz2
  obtain ⟨p, hp⟩ : ∃ p, w1.heap.size = p := ⟨_, rfl⟩
  have hpw : w.heap.size ≤ p := by rw [← hp]; exact hb1.size
  have hH : (w1.alloc (.cells #[.slice ao n cap, .slice (some ⟨w.heap.size, 0, none⟩) m m, .int .u64 0] 45)).heap[p]? = some (.cells #[.slice ao n cap, .slice (some ⟨w.heap.size, 0, none⟩) m m, .int .u64 0] 45 (0, 0)) := by
    rw [← hp]; exact heap_alloc_new _ _
  have hO := hxs0.alloc (.cells #[.slice ao n cap, .slice (some ⟨w.heap.size, 0, none⟩) m m, .int .u64 0] 45)
  have hB : Below w.heap.size w (w1.alloc (.cells #[.slice ao n cap, .slice (some ⟨w.heap.size, 0, none⟩) m m, .int .u64 0] 45)) := hb1.alloc hb1.size _
  clear hxs0 hb1
  go_wp2
  clear hp
  go_loopw [17] (fun i wr => ∃ k : Nat, k ≤ m ∧ i = .int .i64 k ∧ (∃ xs, wr.ownsRow w.heap.size 43 1 (.slice (some ⟨w.heap.size, 0, none⟩) m m) m xs ∧ ∀ j, j < k → xs[j]? = some (.int .u64 (c j))) ∧ wr.heap[p]? = some (.cells #[.slice ao n cap, .slice (some ⟨w.heap.size, 0, none⟩) m m, .int .u64 0] 45 (0, 0)) ∧ Below w.heap.size w wr)
    (fun i _ => m - (intOf i).toNat)
  case atStart => exact ⟨0, Nat.zero_le _, rfl, ⟨xs0, hO, fun j hj => by omega⟩, hH, hB⟩
  case round =>
    obtain ⟨k, hk, rfl, ⟨xs, hown, hx⟩, hh, hb⟩ := hrel
    clear hO hB hH
    by_cases hlt : k < m
    · have hck : wr.cell? ⟨cb, off + k, none⟩ = some (.int .u64 (c k)) := cell_later hb (hc k hlt)
      have hfz := hown.frozenAt k
      have hcl : ∃ v, wr.cell? ⟨w.heap.size, k, none⟩ = some v := by
        rw [hown.cellAt k (by omega)]
        exact ⟨_, List.getElem?_eq_getElem (by have := hown.1; omega)⟩
      obtain ⟨v0, hcl⟩ := hcl
      have hst := (hown.stored k (.int .u64 (c k))).1
      obtain ⟨fk, hfk⟩ : ∃ fk, c k = fk := ⟨_, rfl⟩
      rw [hfk] at hst hck
      have hgp : w.heap.size ≠ p := own_ne hown hh (by decide)
      have HS : Hid ((wr.setCell ⟨w.heap.size, k, none⟩ (.int .u64 fk)).ownsRow w.heap.size 43 1 (.slice (some ⟨w.heap.size, 0, none⟩) m m) m (xs.set k (.int .u64 fk)) ∧ (∀ j, j < k + 1 → (xs.set k (.int .u64 fk))[j]? = some (.int .u64 (c j))) ∧
          (wr.setCell ⟨w.heap.size, k, none⟩ (.int .u64 fk)).heap[p]? = some (.cells #[.slice ao n cap, .slice (some ⟨w.heap.size, 0, none⟩) m m, .int .u64 0] 45 (0, 0)) ∧ Below w.heap.size w (wr.setCell ⟨w.heap.size, k, none⟩ (.int .u64 fk))) := by
        refine ⟨hst, fun j hj => ?_, (Below.heap_setCell _ _ _ _ (fun e => hgp e.symm)).trans hh, hb.setCell (Nat.le_refl _) _⟩
        by_cases e : j = k
        · subst e
          rw [List.getElem?_set_self (by have := hown.1; omega), hfk]
        · rw [List.getElem?_set_ne (by omega)]
          exact hx j (by omega)
      have d1 := three1 hh
      have hlt' : (k : Int) < (m : Int) := by omega
      have hS := store_any w.heap.size k v0 fk wr.drew hcl hfz
      clear hst hown hfk hx hb hh hgp hcl hfz
      go_wp2_with fail
      go_region_with (go_at_call 16; refine hS.mono ?_; rintro e w2 ⟨rfl, rfl⟩)
      all_goals
        go_wp2_with fail
        go_roundw
        case rel => exact ⟨k + 1, by omega, by go_num, ⟨_, HS.out.1, HS.out.2.1⟩, HS.out.2.2.1, HS.out.2.2.2.drew⟩
        case measure => simp [intOf]; omega
    · have hkm : k = m := by omega
      subst hkm
      have d2 := three2 hh
      have dz := three_free hh 2
      have hgp : w.heap.size ≠ p := own_ne hown hh (by decide)
      have HS : Hid (Hi w.heap.size (wr.setCell ⟨p, 2, none⟩ (.int .u64 s)) p w.heap.size ao n cap k c s ∧ Below w.heap.size w (wr.setCell ⟨p, 2, none⟩ (.int .u64 s))) :=
        ⟨⟨three_set2 hh, hpw, xs, ownsRow_setCell_other hown (by simpa [Value.ownBlock] using hgp) _, hx⟩, hb.setCell hpw _⟩
      have hS := store_any p 2 _ s wr d2 dz
      clear hown hx hb hh hgp
      go_wp2_with fail
      refine hS.mono ?_
      rintro e w2 ⟨rfl, rfl⟩
      go_wp2_with fail
      go_ret
      exact ⟨p, w.heap.size, rfl, HS.out⟩

set_option maxHeartbeats 1000000 in
theorem counts_any (B p g : Nat) (ao : Option Addr) (n cap m : Nat) (c : Nat → Int) (s : Int) (w : World) (hm : m ≤ 65537) (h : Hi B w p g ao n cap m c s) :
    Calls Try.prog 11 #[.pointer (some ⟨p, 0, none⟩)] w fun e w' => e = .returned (.slice (some ⟨w.heap.size, 0, none⟩) m m) ∧ (∀ i, i < m → w'.cell? ⟨w.heap.size, i, none⟩ = some (.int .u64 (c i))) ∧ Below w.heap.size w w' := by
  obtain ⟨i0, hi, hz0, hz1, hz2⟩ := info_parts info24
  have d1 := three1 h.hist
  have HC : Hid (∀ i, i < m → w.cell? ⟨g, i, none⟩ = some (.int .u64 (c i))) := h.cell
  clear h
  go_enter Try.func11, Try.ntmps11
  go_wp2_with (at_make; refine wpList_make_full _ rfl _ _ 23 rfl w.heap.size 24 i0 (.int .u64 0) 1 Try.underlying23 hi hz0 hz1 _ _ _ _ m rfl rfl rfl rfl ?c1 ?c2 ?c3 ?_)
  case c1 => rw [hz2]; omega
  case c2 => unfold maxLen; omega
  case c3 => exact Nat.le_refl _
  intro w1 hown hgrow
  have hb1 : Below w.heap.size w w1 := (Below.refl _ _).grown hgrow (Nat.le_refl _) (fun k hk => by cases hk)
  obtain ⟨xs0, hxs0⟩ : ∃ xs, w1.ownsRow w.heap.size 24 1 (.slice (some ⟨w.heap.size, 0, none⟩) m m) m xs := ⟨_, hown⟩
  clear hown hgrow hi hz0 hz1 hz2
  have d1' := cell_later hb1 d1
  go_wp2_with fail
  go_loopw [16] (fun i wr => ∃ k : Nat, k ≤ m ∧ i = .int .i64 k ∧ (∃ xs, wr.ownsRow w.heap.size 24 1 (.slice (some ⟨w.heap.size, 0, none⟩) m m) m xs ∧ ∀ j, j < k → xs[j]? = some (.int .u64 (c j))) ∧ Below w.heap.size w wr)
    (fun i _ => m - (intOf i).toNat)
  case atStart => exact ⟨0, Nat.zero_le _, rfl, ⟨xs0, hxs0, fun j hj => by omega⟩, hb1⟩
  case round =>
    obtain ⟨k, hk, rfl, ⟨xs, hown, hx⟩, hb⟩ := hrel
    clear hxs0 hb1 d1'
    by_cases hlt : k < m
    · have hck : wr.cell? ⟨g, k, none⟩ = some (.int .u64 (c k)) := cell_later hb (HC.out k hlt)
      have dk := cell_later hb d1
      have hfz := hown.frozenAt k
      have hcl : ∃ v, wr.cell? ⟨w.heap.size, k, none⟩ = some v := by
        rw [hown.cellAt k (by omega)]
        exact ⟨_, List.getElem?_eq_getElem (by have := hown.1; omega)⟩
      obtain ⟨v0, hcl⟩ := hcl
      have hst := (hown.stored k (.int .u64 (c k))).1
      obtain ⟨fk, hfk⟩ : ∃ fk, c k = fk := ⟨_, rfl⟩
      rw [hfk] at hst hck
      have HS : Hid ((wr.setCell ⟨w.heap.size, k, none⟩ (.int .u64 fk)).ownsRow w.heap.size 24 1 (.slice (some ⟨w.heap.size, 0, none⟩) m m) m (xs.set k (.int .u64 fk)) ∧ ∀ j, j < k + 1 → (xs.set k (.int .u64 fk))[j]? = some (.int .u64 (c j))) := by
        refine ⟨hst, fun j hj => ?_⟩
        by_cases e : j = k
        · subst e
          rw [List.getElem?_set_self (by have := hown.1; omega), hfk]
        · rw [List.getElem?_set_ne (by omega)]
          exact hx j (by omega)
      have hL := load_any g k fk wr hck
      clear hst hown hfk hx
      go_wp2_with fail
      refine hL.mono ?_
      rintro e w2 ⟨rfl, rfl⟩
      go_wp2_with fail
      go_roundw
      case rel => exact ⟨k + 1, by omega, by go_num, ⟨_, HS.out⟩, hb.setCell (Nat.le_refl _) _⟩
      case measure => simp [intOf]; omega
    · have hkm : k = m := by omega
      subst hkm
      have HG : Hid (∀ i, i < k → wr.cell? ⟨w.heap.size, i, none⟩ = some (.int .u64 (c i))) := by
        intro i hi
        rw [hown.cellAt i (by omega)]
        exact hx i hi
      clear hown hx
      go_wp2_with fail
      go_ret
      exact ⟨rfl, HG.out, hb⟩

theorem sumBits_any (B p g : Nat) (ao : Option Addr) (n cap m : Nat) (c : Nat → Int) (s : Int) (w : World) (h : Hi B w p g ao n cap m c s) :
    Calls Try.prog 13 #[.pointer (some ⟨p, 0, none⟩)] w fun e w' => e = .returned (.int .u64 s) ∧ w' = w := by
  have hL := load_any p 2 s w (three2 h.hist)
  clear h
  go_enter Try.func13, Try.ntmps13
  go_wp2_with fail
  refine hL.mono ?_
  rintro e w2 ⟨rfl, rfl⟩
  go_wp2_with fail
  go_ret
  exact ⟨rfl, rfl⟩

theorem matches_any (gb want : Nat) (w : World) (h : Agree gb want) :
    Calls Try.prog 12 #[.int .u64 gb, .float .f64 want] w fun e w' => e = .returned (.bool true) ∧ w' = w := by
  have hfb := frombits_run (gb : Int)
  have hbt := bits_run want
  have eN : ((gb : Int)).toNat = gb := by omega
  rw [eN] at hfb
  clear eN
  cases hw : nanB want
  · have hw' : (FloatKind.f64.format.order want want != some Ordering.eq) = false := hw
    have e : gb = want := by
      rcases h with h | ⟨_, h⟩
      · exact h
      · rw [hw] at h; cases h
    subst e
    go_enter Try.func12, Try.ntmps12
    go_wp2
    go_ret
    exact ⟨rfl, rfl⟩
  · have hw' : (FloatKind.f64.format.order want want != some Ordering.eq) = true := hw
    have hg : nanB gb = true := by
      rcases h with rfl | ⟨h, _⟩
      · exact hw
      · exact h
    have hg' : (FloatKind.f64.format.order gb gb != some Ordering.eq) = true := hg
    go_enter Try.func12, Try.ntmps12
    go_wp2
    go_ret
    exact ⟨rfl, rfl⟩

end Go.Proofs.Qxb6628331a
