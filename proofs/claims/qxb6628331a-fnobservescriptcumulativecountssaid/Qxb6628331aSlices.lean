/- The slices: zzb1Ascending, zzb1CloneF, zzb1CloneU: the contracts. -/
import Derived.Test.Qxb6628331aAtomics
import Derived.Test.Qxb6628331aPlain
import Derived.Deep.QuietTactic
import Derived.BigQuiet
import Derived.Deep.LoopGhost
import Derived.Deep.RegionWith
namespace Go.Proofs.Qxb6628331a
open Go.RowKit
attribute [local go_sem] run_store_float

/-- A slice of n floats, below block B. -/
def Fl (B : Nat) (w : World) (ao : Option Addr) (n : Nat) (f : Nat → Nat) : Prop :=
  n = 0 ∨ ∃ g off, ao = some ⟨g, off, none⟩ ∧ g < B ∧ ∀ i, i < n → w.cell? ⟨g, off + i, none⟩ = some (.float .f64 (f i))

theorem Fl.later {B : Nat} {w w' : World} {ao : Option Addr} {n : Nat} {f : Nat → Nat} (h : Fl B w ao n f) (hb : Below B w w') : Fl B w' ao n f := by
  rcases h with h | ⟨g, off, h1, h2, h3⟩
  · exact .inl h
  · exact .inr ⟨g, off, h1, h2, fun i hi => (hb.cell (p := ⟨g, off + i, none⟩) h2).trans (h3 i hi)⟩

theorem Fl.mono {B B' : Nat} {w : World} {ao : Option Addr} {n : Nat} {f : Nat → Nat} (h : Fl B w ao n f) (hb : B ≤ B') : Fl B' w ao n f := by
  rcases h with h | ⟨g, off, h1, h2, h3⟩
  · exact .inl h
  · exact .inr ⟨g, off, h1, by omega, h3⟩

/-- A slice of n uint64s, below block B. -/
def Ul (B : Nat) (w : World) (ao : Option Addr) (n : Nat) (f : Nat → Int) : Prop :=
  n = 0 ∨ ∃ g off, ao = some ⟨g, off, none⟩ ∧ g < B ∧ ∀ i, i < n → w.cell? ⟨g, off + i, none⟩ = some (.int .u64 (f i))

theorem Ul.later {B : Nat} {w w' : World} {ao : Option Addr} {n : Nat} {f : Nat → Int} (h : Ul B w ao n f) (hb : Below B w w') : Ul B w' ao n f := by
  rcases h with h | ⟨g, off, h1, h2, h3⟩
  · exact .inl h
  · exact .inr ⟨g, off, h1, h2, fun i hi => (hb.cell (p := ⟨g, off + i, none⟩) h2).trans (h3 i hi)⟩

theorem Ul.mono {B B' : Nat} {w : World} {ao : Option Addr} {n : Nat} {f : Nat → Int} (h : Ul B w ao n f) (hb : B ≤ B') : Ul B' w ao n f := by
  rcases h with h | ⟨g, off, h1, h2, h3⟩
  · exact .inl h
  · exact .inr ⟨g, off, h1, by omega, h3⟩

theorem drewN_two (w : World) (a b : Nat) : (w.drewN a).drewN b = w.drewN (a + b) := by simp [World.drewN, Nat.add_assoc]

def AscEnd (n : Nat) (f : Nat → Nat) (e : Ending) : Prop := e = .returned (.bool false) ∨ (e = .returned (.bool true) ∧ Asc n f)

set_option maxHeartbeats 1000000 in
theorem asc_any (B : Nat) (ao : Option Addr) (n cap : Nat) (f : Nat → Nat) (w : World) (hn : n ≤ 65536) (hf : Fl B w ao n f) :
    Calls Try.prog 6 #[.slice ao n cap] w fun e w' => AscEnd n f e ∧ ∃ nq, w' = w.drewN nq := by
  have HF : Hid (Fl B w ao n f) := hf
  clear hf
  go_enter Try.func6, Try.ntmps6
  go_wp2
  go_loopw [3] (fun i wr => ∃ k nq : Nat, k ≤ n ∧ i = .int .i64 k ∧ wr = w.drewN nq ∧ (∀ i, i < k → nanB (f i) = false) ∧ ∀ i, i + 1 < k → (Ieee.double.order (f i) (f (i + 1)) == some .gt) = false) (fun i _ => n - (intOf i).toNat)
  case atStart => exact ⟨0, 0, Nat.zero_le _, rfl, rfl, fun i hi => by omega, fun i hi => by omega⟩
  case round =>
    obtain ⟨k, nq, hk, rfl, rfl, hx, hy⟩ := hrel
    have HX : Hid ((∀ i, i < k → nanB (f i) = false) ∧ ∀ i, i + 1 < k → (Ieee.double.order (f i) (f (i + 1)) == some .gt) = false) := ⟨hx, hy⟩
    clear hx hy
    by_cases hlt : k < n
    · obtain ⟨g, off, rfl, _, hc⟩ : ∃ g off, ao = some ⟨g, off, none⟩ ∧ g < B ∧ ∀ i, i < n → w.cell? ⟨g, off + i, none⟩ = some (.float .f64 (f i)) := by
        rcases HF.out with h | h
        · omega
        · exact h
      have c1 : w.cell? ⟨g, off + k, none⟩ = some (.float .f64 (f k)) := hc k hlt
      have c2 : 0 < k → w.cell? ⟨g, off + (k - 1), none⟩ = some (.float .f64 (f (k - 1))) := fun _ => hc (k - 1) (by omega)
      have hlt' : (k : Int) < (n : Int) := by omega
      clear hc
      cases hN : nanB (f k)
      · have hN' : (FloatKind.f64.format.order (f k) (f k) != some Ordering.eq) = false := hN
        by_cases h0 : 0 < k
        · have c3 := c2 h0
          have h0' : (0 : Int) < (k : Int) := by omega
          cases hG : (Ieee.double.order (f (k - 1)) (f k) == some .gt)
          · have hG' : (FloatKind.f64.format.order (f (k - 1)) (f k) == some Ordering.gt) = false := hG
            clear c2
            go_wp2
            go_quiet (fail)
            go_wp2
            go_quiet (fail)
            go_wp2
            go_roundw
            case rel =>
              refine ⟨k + 1, _, by omega, by go_num, rfl, fun i hi => ?_, fun i hi => ?_⟩
              · by_cases e : i = k
                · subst e; exact hN
                · exact HX.out.1 i (by omega)
              · by_cases e : i + 1 = k
                · subst e; exact hG
                · exact HX.out.2 i (by omega)
            case measure => simp [intOf]; omega
          · have hG' : (FloatKind.f64.format.order (f (k - 1)) (f k) == some Ordering.gt) = true := hG
            clear c2
            go_wp2
            go_quiet (fail)
            go_wp2
            go_quiet (fail)
            go_wp2
            go_ret
            exact ⟨.inl rfl, _, by rw [drewN_two, drewN_two]⟩
        · have h0' : decide ((0 : Int) < (k : Int)) = false := decide_eq_false (by omega)
          clear c2
          go_wp2
          go_quiet (fail)
          go_wp2
          go_quiet (fail)
          go_wp2
          go_roundw
          case rel =>
            refine ⟨k + 1, _, by omega, by go_num, rfl, fun i hi => ?_, fun i hi => by omega⟩
            have e : i = k := by omega
            subst e; exact hN
          case measure => simp [intOf]; omega
      · have hN' : (FloatKind.f64.format.order (f k) (f k) != some Ordering.eq) = true := hN
        clear c2
        go_wp2
        go_quiet (fail)
        go_wp2
        go_ret
        exact ⟨.inl rfl, _, by rw [drewN_two]⟩
    · have hkn : k = n := by omega
      subst hkn
      go_wp2
      go_ret
      exact ⟨.inr ⟨rfl, HX.out⟩, _, rfl⟩

theorem info25 : (Try.prog.info? 25).map (fun i => (i.zero, i.size, i.bytes)) = some (some (.float .f64 0), 1, 8) := by kernel_rfl
theorem info24 : (Try.prog.info? 24).map (fun i => (i.zero, i.size, i.bytes)) = some (some (.int .u64 0), 1, 8) := by kernel_rfl

theorem cloneF_nil (cap : Nat) (w : World) :
    Calls Try.prog 7 #[.slice none 0 cap] w fun e w' => e = .returned (.slice none 0 0) ∧ w' = w := by
  have q22 : ∀ (w : World) (a : Option Addr) (n c n' c' : Nat), (binOp .eql 22 (.slice a n c) (.slice none n' c')).run Try.prog w = .ok (.bool a.isNone) w := fun w a n c n' c' => Lib.run_eql_slice_nil w _ _ a n c n' c' Try.underlying22
  go_enter Try.func7, Try.ntmps7
  go_wp2
  go_ret
  exact ⟨rfl, rfl⟩

set_option maxHeartbeats 400000 in
theorem cloneF_some (B : Nat) (x : Addr) (n cap : Nat) (f : Nat → Nat) (w : World) (hn : n ≤ 65536) (hB : B ≤ w.heap.size) (hf : Fl B w (some x) n f) :
    Calls Try.prog 7 #[.slice (some x) n cap] w fun e w' => e = .returned (.slice (some ⟨w.heap.size, 0, none⟩) n n) ∧ Fl w'.heap.size w' (some ⟨w.heap.size, 0, none⟩) n f ∧ Below w.heap.size w w' := by
  have q22 : ∀ (w : World) (a : Option Addr) (n c n' c' : Nat), (binOp .eql 22 (.slice a n c) (.slice none n' c')).run Try.prog w = .ok (.bool a.isNone) w := fun w a n c n' c' => Lib.run_eql_slice_nil w _ _ a n c n' c' Try.underlying22
  have HF : Hid (Fl B w (some x) n f) := hf
  clear hf
  obtain ⟨i0, hi, hz0, hz1, hz2⟩ := info_parts info25
  go_enter Try.func7, Try.ntmps7
  go_wp2_with (at_make; refine wpList_make_full _ rfl _ _ 22 rfl w.heap.size 25 i0 (.float .f64 0) 1 Try.underlying22 hi hz0 hz1 _ _ _ _ n rfl rfl rfl rfl ?c1 ?c2 ?c3 ?_)
  case c1 => rw [hz2]; omega
  case c2 => unfold maxLen; omega
  case c3 => exact Nat.le_refl _
  intro w1 hown hgrow
  have hb1 : Below w.heap.size w w1 := (Below.refl _ _).grown hgrow (Nat.le_refl _) (fun k hk => by cases hk)
  obtain ⟨xs0, hxs0⟩ : ∃ xs, w1.ownsRow w.heap.size 25 1 (.slice (some ⟨w.heap.size, 0, none⟩) n n) n xs := ⟨_, hown⟩
  clear hown hgrow hi hz0 hz1 hz2
  go_wp2
  go_loopw [4] (fun i wr => ∃ k : Nat, k ≤ n ∧ i = .int .i64 k ∧ (∃ xs, wr.ownsRow w.heap.size 25 1 (.slice (some ⟨w.heap.size, 0, none⟩) n n) n xs ∧ ∀ j, j < k → xs[j]? = some (.float .f64 (f j))) ∧ Below w.heap.size w wr)
    (fun i _ => n - (intOf i).toNat)
  case atStart => exact ⟨0, Nat.zero_le _, rfl, ⟨xs0, hxs0, fun j hj => by omega⟩, hb1⟩
  case round =>
    obtain ⟨k, hk, rfl, ⟨xs, hown, hx⟩, hb⟩ := hrel
    clear hxs0 hb1
    by_cases hlt : k < n
    · obtain ⟨g, off, rfl, hg, hc⟩ : ∃ g off, x = ⟨g, off, none⟩ ∧ g < B ∧ ∀ i, i < n → w.cell? ⟨g, off + i, none⟩ = some (.float .f64 (f i)) := by
        rcases HF.out with h | ⟨g, off, h1, h2, h3⟩
        · omega
        · cases h1; exact ⟨g, off, rfl, h2, h3⟩
      have hck : wr.cell? ⟨g, off + k, none⟩ = some (.float .f64 (f k)) := (hb.cell (p := ⟨g, off + k, none⟩) (by show g < _; omega)).trans (hc k hlt)
      have hfz := hown.frozenAt k
      have hcl : ∃ v, wr.cell? ⟨w.heap.size, k, none⟩ = some v := by
        rw [hown.cellAt k (by omega)]
        exact ⟨_, List.getElem?_eq_getElem (by have := hown.1; omega)⟩
      obtain ⟨v0, hcl⟩ := hcl
      have hst := (hown.stored k (.float .f64 (f k))).1
      obtain ⟨fk, hfk⟩ : ∃ fk, f k = fk := ⟨_, rfl⟩
      rw [hfk] at hst hck
      have HS : Hid ((wr.setCell ⟨w.heap.size, k, none⟩ (.float .f64 fk)).ownsRow w.heap.size 25 1 (.slice (some ⟨w.heap.size, 0, none⟩) n n) n (xs.set k (.float .f64 fk)) ∧ ∀ j, j < k + 1 → (xs.set k (.float .f64 fk))[j]? = some (.float .f64 (f j))) := by
        refine ⟨hst, fun j hj => ?_⟩
        by_cases e : j = k
        · subst e
          rw [List.getElem?_set_self (by have := hown.1; omega), hfk]
        · rw [List.getElem?_set_ne (by omega)]
          exact hx j (by omega)
      clear hst hown hfk hx hc
      go_wp2
      go_roundw
      case rel => exact ⟨k + 1, by omega, by go_num, ⟨_, HS.out⟩, hb.setCell (Nat.le_refl _) _⟩
      case measure => simp [intOf]; omega
    · have : k = n := by omega
      subst this
      have hlt2 : w.heap.size < wr.heap.size := (hown.lt _ rfl).2
      have HG : Hid (Fl wr.heap.size wr (some ⟨w.heap.size, 0, none⟩) k f) := by
        refine .inr ⟨w.heap.size, 0, rfl, hlt2, fun i hi => ?_⟩
        rw [Nat.zero_add, hown.cellAt i (by omega)]
        exact hx i hi
      clear hown hx
      go_wp2
      go_ret
      exact ⟨rfl, HG.out, hb⟩

theorem cloneF_any (B : Nat) (ao : Option Addr) (n cap : Nat) (f : Nat → Nat) (w : World) (hn : n ≤ 65536) (hB : B ≤ w.heap.size) (hnil : ao = none → n = 0) (hf : Fl B w ao n f) :
    Calls Try.prog 7 #[.slice ao n cap] w fun e w' => ∃ ao' c', e = .returned (.slice ao' n c') ∧ (ao' = none → n = 0) ∧ Fl w'.heap.size w' ao' n f ∧ Below w.heap.size w w' := by
  cases ao with
  | none =>
    obtain rfl := hnil rfl
    refine (cloneF_nil cap w).mono ?_
    rintro e w' ⟨rfl, rfl⟩
    exact ⟨_, _, rfl, fun _ => rfl, .inl rfl, Below.refl _ _⟩
  | some x =>
    refine (cloneF_some B x n cap f w hn hB hf).mono ?_
    rintro e w' ⟨rfl, h1, h2⟩
    exact ⟨_, _, rfl, (fun h => by cases h), h1, h2⟩

set_option maxHeartbeats 400000 in
theorem cloneU_any (b off n cap : Nat) (f : Nat → Int) (w : World) (hn : n ≤ 65536) (hc : ∀ i, i < n → w.cell? ⟨b, off + i, none⟩ = some (.int .u64 (f i))) :
    Calls Try.prog 8 #[.slice (some ⟨b, off, none⟩) n cap] w fun e w' => e = .returned (.slice (some ⟨w.heap.size, 0, none⟩) n n) ∧ (∀ i, i < n → w'.cell? ⟨w.heap.size, i, none⟩ = some (.int .u64 (f i))) ∧ w.heap.size < w'.heap.size ∧ Below w.heap.size w w' := by
  have q23 : ∀ (w : World) (a : Option Addr) (n c n' c' : Nat), (binOp .eql 23 (.slice a n c) (.slice none n' c')).run Try.prog w = .ok (.bool a.isNone) w := fun w a n c n' c' => Lib.run_eql_slice_nil w _ _ a n c n' c' Try.underlying23
  obtain ⟨i0, hi, hz0, hz1, hz2⟩ := info_parts info24
  go_enter Try.func8, Try.ntmps8
  go_wp2_with (at_make; refine wpList_make_full _ rfl _ _ 23 rfl w.heap.size 24 i0 (.int .u64 0) 1 Try.underlying23 hi hz0 hz1 _ _ _ _ n rfl rfl rfl rfl ?c1 ?c2 ?c3 ?_)
  case c1 => rw [hz2]; omega
  case c2 => unfold maxLen; omega
  case c3 => exact Nat.le_refl _
  intro w1 hown hgrow
  have hb1 : Below w.heap.size w w1 := (Below.refl _ _).grown hgrow (Nat.le_refl _) (fun k hk => by cases hk)
  obtain ⟨xs0, hxs0⟩ : ∃ xs, w1.ownsRow w.heap.size 24 1 (.slice (some ⟨w.heap.size, 0, none⟩) n n) n xs := ⟨_, hown⟩
  clear hown hgrow hi hz0 hz1 hz2
  go_wp2
  go_loopw [4] (fun i wr => ∃ k : Nat, k ≤ n ∧ i = .int .i64 k ∧ (∃ xs, wr.ownsRow w.heap.size 24 1 (.slice (some ⟨w.heap.size, 0, none⟩) n n) n xs ∧ ∀ j, j < k → xs[j]? = some (.int .u64 (f j))) ∧ Below w.heap.size w wr)
    (fun i _ => n - (intOf i).toNat)
  case atStart => exact ⟨0, Nat.zero_le _, rfl, ⟨xs0, hxs0, fun j hj => by omega⟩, hb1⟩
  case round =>
    obtain ⟨k, hk, rfl, ⟨xs, hown, hx⟩, hb⟩ := hrel
    clear hxs0 hb1
    by_cases hlt : k < n
    · have hck : wr.cell? ⟨b, off + k, none⟩ = some (.int .u64 (f k)) := cell_later hb (hc k hlt)
      have hfz := hown.frozenAt k
      have hcl : ∃ v, wr.cell? ⟨w.heap.size, k, none⟩ = some v := by
        rw [hown.cellAt k (by omega)]
        exact ⟨_, List.getElem?_eq_getElem (by have := hown.1; omega)⟩
      obtain ⟨v0, hcl⟩ := hcl
      have hst := (hown.stored k (.int .u64 (f k))).1
      obtain ⟨fk, hfk⟩ : ∃ fk, f k = fk := ⟨_, rfl⟩
      rw [hfk] at hst hck
      have HS : Hid ((wr.setCell ⟨w.heap.size, k, none⟩ (.int .u64 fk)).ownsRow w.heap.size 24 1 (.slice (some ⟨w.heap.size, 0, none⟩) n n) n (xs.set k (.int .u64 fk)) ∧ ∀ j, j < k + 1 → (xs.set k (.int .u64 fk))[j]? = some (.int .u64 (f j))) := by
        refine ⟨hst, fun j hj => ?_⟩
        by_cases e : j = k
        · subst e
          rw [List.getElem?_set_self (by have := hown.1; omega), hfk]
        · rw [List.getElem?_set_ne (by omega)]
          exact hx j (by omega)
      clear hst hown hfk hx
      go_wp2
      go_roundw
      case rel => exact ⟨k + 1, by omega, by go_num, ⟨_, HS.out⟩, hb.setCell (Nat.le_refl _) _⟩
      case measure => simp [intOf]; omega
    · have : k = n := by omega
      subst this
      have hlt2 : w.heap.size < wr.heap.size := (hown.lt _ rfl).2
      have HG : Hid (∀ i, i < k → wr.cell? ⟨w.heap.size, i, none⟩ = some (.int .u64 (f i))) := by
        intro i hi
        rw [hown.cellAt i (by omega)]
        exact hx i hi
      clear hown hx
      go_wp2
      go_ret
      exact ⟨rfl, HG.out, hlt2, hb⟩

end Go.Proofs.Qxb6628331a
