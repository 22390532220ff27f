/- zzBuildWaits, Victim, zzAnyTrue, zzCycDist: the contracts. -/
import Derived.Test.Qxb6628306aRows
import Derived.Test.Qxb6628306aPlain
import Derived.WalkKit
import Derived.WalkSpells
import Derived.WalkLawsBesides
namespace Go.Proofs.Qxb6628306a
open Go.RowKit

theorem info4 : (Try.prog.info? 4).map (fun i => (i.zero, i.size, i.bytes)) = some (some (.bool false), 1, 1) := by kernel_rfl
theorem info35 : (Try.prog.info? 35).map (fun i => (i.zero, i.size, i.bytes)) = some (some (.agg #[.int .u64 0, .int .u64 0, .bool false, .int .u64 0, .int .i64 0, .pointer none, .slice none 0 0]), 7, 72) := by kernel_rfl

/-- n flags at an address. -/
def Flags (w : World) (b off n : Nat) (f : Nat → Bool) : Prop := ∀ i, i < n → w.cell? ⟨b, off + i, none⟩ = some (.bool (f i))

theorem Flags.later {w w' : World} {b off n : Nat} {f : Nat → Bool} (h : Flags w b off n f) (hb : Below w.heap.size w w') : Flags w' b off n f :=
  fun i hi => cell_later hb (h i hi)

/-- What the built waits are: n structs of seven cells, the third of each its flag. -/
def Waits (w : World) (g n : Nat) (f : Nat → Bool) : Prop := ∀ i, i < n → w.cell? ⟨g, i * 7 + 2, none⟩ = some (.bool (f i))

set_option maxHeartbeats 400000 in
theorem build_any (b off n cap : Nat) (f : Nat → Bool) (w : World) (hn : n ≤ 65536) (hf : Flags w b off n f) :
    Calls Try.prog 7 #[.slice (some ⟨b, off, none⟩) n cap] w fun e w' => e = .returned (.slice (some ⟨w.heap.size, 0, none⟩) n n) ∧ Waits w' w.heap.size n f ∧ Below w.heap.size w w' := by
  obtain ⟨i0, hi, hz0, hz1, hz2⟩ := info_parts info35
  go_enter Try.func7, Try.ntmps7
  go_wp2_with (at_make; refine wpList_make_full _ rfl _ _ 25 rfl w.heap.size 35 i0 _ 7 Try.underlying25 hi hz0 hz1 _ _ _ _ n rfl rfl rfl rfl ?c1 ?c2 ?c3 ?_)
  case c1 => rw [hz2]; omega
  case c2 => unfold maxLen; omega
  case c3 => exact Nat.le_refl _
  intro w1 hown hgrow
  have hb1 : Below w.heap.size w w1 := (Below.refl _ _).grown hgrow (Nat.le_refl _) (fun k hk => by cases hk)
  obtain ⟨xs0, hxs0⟩ : ∃ xs, w1.ownsRow w.heap.size 35 7 (.slice (some ⟨w.heap.size, 0, none⟩) n n) n xs := ⟨_, hown⟩
  clear hown hgrow hi hz0 hz1 hz2
  go_wp2
  go_loopw [4] (fun i wr => ∃ k : Nat, k ≤ n ∧ i = .int .i64 k ∧ (∃ xs, wr.ownsRow w.heap.size 35 7 (.slice (some ⟨w.heap.size, 0, none⟩) n n) n xs ∧ ∀ j, j < k → xs[j * 7 + 2]? = some (.bool (f j))) ∧ Below w.heap.size w wr)
    (fun i _ => n - (intOf i).toNat)
  case atStart => exact ⟨0, Nat.zero_le _, rfl, ⟨xs0, hxs0, fun j hj => by omega⟩, hb1⟩
  case round =>
    obtain ⟨k, hk, rfl, ⟨xs, hown, hx⟩, hb⟩ := hrel
    clear hxs0 hb1
    by_cases hlt : k < n
    · have hck : wr.cell? ⟨b, off + k, none⟩ = some (.bool (f k)) := hf.later hb k hlt
      have hfz := hown.frozenAt (k * 7 + 2)
      have hcl : ∃ v, wr.cell? ⟨w.heap.size, k * 7 + 2, none⟩ = some v := by
        rw [hown.cellAt (k * 7 + 2) (by omega)]
        exact ⟨_, List.getElem?_eq_getElem (by have := hown.1; omega)⟩
      obtain ⟨v0, hcl⟩ := hcl
      have hst := (hown.stored (k * 7 + 2) (.bool (f k))).1
      obtain ⟨fk, hfk⟩ : ∃ fk, f k = fk := ⟨_, rfl⟩
      rw [hfk] at hst hck
      have HS : Hid ((wr.setCell ⟨w.heap.size, k * 7 + 2, none⟩ (.bool fk)).ownsRow w.heap.size 35 7 (.slice (some ⟨w.heap.size, 0, none⟩) n n) n (xs.set (k * 7 + 2) (.bool fk)) ∧ ∀ j, j < k + 1 → (xs.set (k * 7 + 2) (.bool fk))[j * 7 + 2]? = some (.bool (f j))) := by
        refine ⟨hst, fun j hj => ?_⟩
        by_cases e : j = k
        · subst e
          rw [List.getElem?_set_self (by have := hown.1; omega), hfk]
        · rw [List.getElem?_set_ne (by omega)]
          exact hx j (by omega)
      clear hst hown hfk hx
      go_wp2
      go_roundw
      case rel => exact ⟨k + 1, by omega, by go_num, ⟨_, HS.out⟩, hb.setCell (Nat.le_refl _) _⟩
      case measure => simp [intOf]; omega
    · have : k = n := by omega
      subst this
      go_wp2
      go_ret
      refine ⟨rfl, fun i hi => ?_, hb⟩
      rw [hown.cellAt (i * 7 + 2) (by omega)]
      exact hx i hi

set_option maxHeartbeats 400000 in
theorem victim_any (g n c : Nat) (f : Nat → Bool) (w : World) (hn : n ≤ 65536) (hc : c < n) (hf : Waits w g n f) :
    Calls Try.prog 6 #[.slice (some ⟨g, 0, none⟩) n n, .int .i64 c] w fun e w' => (∃ r, e = .returned (.int .i64 r) ∧ IsVic n c f r) ∧ w' = w := by
  go_enter Try.func6, Try.ntmps6
  go_wp2
  go_loop [9] (fun i => ∃ k : Nat, k ≤ n ∧ i = .int .i64 k ∧ ∀ j, j < k → f ((c + j) % n) = false) (fun i => n - (intOf i).toNat)
  case atStart => exact ⟨0, Nat.zero_le _, rfl, fun j hj => by omega⟩
  case round =>
    obtain ⟨k, hk, rfl, hx⟩ := hrel
    by_cases hlt : k < n
    · have hj : (c + k) % n < n := Nat.mod_lt _ (by omega)
      have hcj := hf _ hj
      obtain ⟨j, ej⟩ : ∃ j, (c + k) % n = j := ⟨_, rfl⟩
      rw [ej] at hj hcj
      have ej' : ((c : Int) + (k : Int)) % (n : Int) = (j : Int) := by rw [← ej]; simp
      have HX : Hid ((∀ j, j < k → f ((c + j) % n) = false) ∧ (c + k) % n = j) := ⟨hx, ej⟩
      clear hx ej
      cases hfj : f j
      · rw [hfj] at hcj
        go_wp2
        go_round
        case rel =>
          refine ⟨k + 1, by omega, by go_num, fun i hi => ?_⟩
          by_cases e : i = k
          · subst e; rw [HX.out.2]; exact hfj
          · exact HX.out.1 i (by omega)
        case measure => simp [intOf]; omega
      · rw [hfj] at hcj
        go_wp2
        go_ret
        refine ⟨⟨_, rfl, .inr ⟨k, hlt, ?_, ?_, HX.out.1⟩⟩, rfl⟩
        · rw [HX.out.2]
        · rw [HX.out.2]; exact hfj
    · have : k = n := by omega
      subst this
      go_wp2
      go_ret
      exact ⟨⟨_, rfl, .inl ⟨rfl, hx⟩⟩, rfl⟩

theorem victim_none (g c : Nat) (cl : Int) (w : World) :
    Calls Try.prog 6 #[.slice (some ⟨g, 0, none⟩) 0 c, .int .i64 cl] w fun e w' => e = .returned (.int .i64 (-1)) ∧ w' = w := by
  go_enter Try.func6, Try.ntmps6
  go_wp2
  refine wp_loop_rounds 1 ?_
  rw [rounds_succ]
  go_wp2
  go_ret
  exact ⟨rfl, rfl⟩

def IsAny (n : Nat) (f : Nat → Bool) (e : Ending) : Prop := (e = .returned (.bool false) ∧ ∀ i, i < n → f i = false) ∨ (e = .returned (.bool true) ∧ ∃ i, i < n ∧ f i = true)

set_option maxHeartbeats 400000 in
theorem any_any (b off n cap : Nat) (f : Nat → Bool) (w : World) (hn : n ≤ 65536) (hf : Flags w b off n f) :
    Calls Try.prog 8 #[.slice (some ⟨b, off, none⟩) n cap] w fun e w' => IsAny n f e ∧ w' = w := by
  go_enter Try.func8, Try.ntmps8
  go_wp2
  go_loop [3] (fun i => ∃ k : Nat, k ≤ n ∧ i = .int .i64 k ∧ ∀ j, j < k → f j = false) (fun i => n - (intOf i).toNat)
  case atStart => exact ⟨0, Nat.zero_le _, rfl, fun j hj => by omega⟩
  case round =>
    obtain ⟨k, hk, rfl, hx⟩ := hrel
    by_cases hlt : k < n
    · have hcj := hf _ hlt
      have HX : Hid (∀ j, j < k → f j = false) := hx
      clear hx
      cases hfj : f k
      · rw [hfj] at hcj
        have HF : Hid (f k = false) := hfj
        clear hfj
        go_wp2
        go_round
        case rel =>
          refine ⟨k + 1, by omega, by go_num, fun i hi => ?_⟩
          by_cases e : i = k
          · subst e; exact HF.out
          · exact HX.out i (by omega)
        case measure => simp [intOf]; omega
      · rw [hfj] at hcj
        go_wp2
        go_ret
        exact ⟨.inr ⟨rfl, k, hlt, hfj⟩, rfl⟩
    · have : k = n := by omega
      subst this
      go_wp2
      go_ret
      exact ⟨.inl ⟨rfl, hx⟩, rfl⟩

theorem any_none (ao : Option Addr) (cap : Nat) (w : World) :
    Calls Try.prog 8 #[.slice ao 0 cap] w fun e w' => e = .returned (.bool false) ∧ w' = w := by
  go_enter Try.func8, Try.ntmps8
  go_wp2
  refine wp_loop_rounds 1 ?_
  rw [rounds_succ]
  go_wp2
  go_ret
  exact ⟨rfl, rfl⟩

set_option maxHeartbeats 400000 in
theorem build_none (ao : Option Addr) (cap : Nat) (w : World) :
    Calls Try.prog 7 #[.slice ao 0 cap] w fun e w' => e = .returned (.slice (some ⟨w.heap.size, 0, none⟩) 0 0) ∧ Below w.heap.size w w' := by
  obtain ⟨i0, hi, hz0, hz1, hz2⟩ := info_parts info35
  go_enter Try.func7, Try.ntmps7
  go_wp2_with (at_make; refine wpList_make_full _ rfl _ _ 25 rfl w.heap.size 35 i0 _ 7 Try.underlying25 hi hz0 hz1 _ _ _ _ 0 rfl rfl rfl rfl ?c1 ?c2 ?c3 ?_)
  case c1 => rw [hz2]; omega
  case c2 => unfold maxLen; omega
  case c3 => exact Nat.le_refl _
  intro w1 hown hgrow
  have hb1 : Below w.heap.size w w1 := (Below.refl _ _).grown hgrow (Nat.le_refl _) (fun k hk => by cases hk)
  clear hown hgrow hi hz0 hz1 hz2
  go_wp2
  refine wp_loop_rounds 1 ?_
  rw [rounds_succ]
  go_wp2
  go_ret
  exact ⟨rfl, hb1⟩

theorem dist_any (a b n : Nat) (w : World) (ha : a < n) (hb : b < n) (hn : n ≤ 65536) :
    Calls Try.prog 9 #[.int .i64 a, .int .i64 b, .int .i64 n] w fun e w' => e = .returned (.int .i64 (((b : Int) - a + n) % n)) ∧ w' = w := by
  go_enter Try.func9, Try.ntmps9
  go_wp2
  go_ret
  exact ⟨rfl, rfl⟩

end Go.Proofs.Qxb6628306a
