/- (*Histogram).Observe: the contract. -/
import Derived.Test.Qxb6628331aHist
namespace Go.Proofs.Qxb6628331a
open Go.RowKit

/-- The counts behind Observe: bucket k has one more. -/
def bump (c : Nat → Int) (k : Nat) : Nat → Int := fun i => if i = k then IntKind.u64.wrap (c k + 1) else c i

theorem Hi.later {B B' : Nat} {w w' : World} {p g : Nat} {ao : Option Addr} {n cap m : Nat} {c : Nat → Int} {s : Int} (h : Hi B w p g ao n cap m c s) (hb : Below w.heap.size w w') (hB : B' ≤ B) : Hi B' w' p g ao n cap m c s := by
  obtain ⟨xs, h1, h2⟩ := h.own
  refine ⟨(hb.block p (lt_of_block h.hist)).trans h.hist, by have := h.low; omega, xs, ⟨h1.1, ?_⟩, h2⟩
  rcases h1.2 with ⟨h, _⟩ | ⟨g', cap, cur, h, hg, hh, r⟩
  · cases h
  · cases h
    exact .inr ⟨g, m, cur, rfl, by omega, (hb.block g (lt_of_block hh)).trans hh, r⟩

theorem Hi.ge {B : Nat} {w : World} {p g : Nat} {ao : Option Addr} {n cap m : Nat} {c : Nat → Int} {s : Int} (h : Hi B w p g ao n cap m c s) : B ≤ g := by
  obtain ⟨xs, h1, h2⟩ := h.own
  rcases h1.2 with ⟨h, _⟩ | ⟨g', cap, cur, h, hg, hh, r⟩
  · cases h
  · cases h; exact hg

/-- A store into bucket k. -/
theorem Hi.bumped {B : Nat} {w : World} {p g : Nat} {ao : Option Addr} {n cap m : Nat} {c : Nat → Int} {s : Int} (h : Hi B w p g ao n cap m c s) (k : Nat) (hk : k < m) : Hi B (w.setCell ⟨g, k, none⟩ (.int .u64 (IntKind.u64.wrap (c k + 1)))) p g ao n cap m (bump c k) s := by
  obtain ⟨xs, h1, h2⟩ := h.own
  have hgp := own_ne h1 h.hist (by decide)
  refine ⟨(Below.heap_setCell _ _ _ _ (fun e => hgp e.symm)).trans h.hist, h.low, _, (h1.stored k _).1, fun i hi => ?_⟩
  unfold bump
  by_cases e : i = k
  · subst e
    rw [List.getElem?_set_self (by have := h1.1; omega), if_pos rfl]
  · rw [List.getElem?_set_ne (fun e2 => e e2.symm), if_neg e]
    exact h2 i hi

/-- A store into the sum. -/
theorem Hi.summed {B : Nat} {w : World} {p g : Nat} {ao : Option Addr} {n cap m : Nat} {c : Nat → Int} {s : Int} (h : Hi B w p g ao n cap m c s) (t : Int) : Hi B (w.setCell ⟨p, 2, none⟩ (.int .u64 t)) p g ao n cap m c t := by
  obtain ⟨xs, h1, h2⟩ := h.own
  have hgp := own_ne h1 h.hist (by decide)
  exact ⟨three_set2 h.hist, h.low, xs, ownsRow_setCell_other h1 (by simpa [Value.ownBlock] using hgp) _, h2⟩

theorem Hi.drew {B : Nat} {w : World} {p g : Nat} {ao : Option Addr} {n cap m : Nat} {c : Nat → Int} {s : Int} (h : Hi B w p g ao n cap m c s) : Hi B w.drew p g ao n cap m c s := ⟨h.hist, h.low, h.own⟩

/-- The sum's part of Observe: what the addition gives. -/
def nanOf (w : World) (x y : Nat) : Nat := Question.cut (.nanBits .f64 x y) (w.tape w.drawn (.nanBits .f64 x y))
theorem nanOf_nan (w : World) (x y : Nat) : nanB (nanOf w x y) = true := by
  unfold nanOf Question.cut
  exact nan_word _ _ (Nat.mod_lt _ (by decide))
theorem nanOf_lt (w : World) (x y : Nat) : nanOf w x y < 18446744073709551616 := by
  have e : nanOf w x y = w.tape w.drawn (.nanBits .f64 x y) % 2 * 9223372036854775808 + 9218868437227405312 + 1 + w.tape w.drawn (.nanBits .f64 x y) / 2 % 4503599627370495 := rfl
  rw [e]
  omega

theorem add_some (x y r : Nat) (h : Ieee.double.add x y = some r) (w : World) : (binOp .add 25 (.float .f64 x) (.float .f64 y)).run Try.prog w = .ok (.float .f64 r) w :=
  run_float_arith w .add 25 .f64 x y r h
theorem add_none (x y : Nat) (h : Ieee.double.add x y = none) (w : World) : (binOp .add 25 (.float .f64 x) (.float .f64 y)).run Try.prog w = .ok (.float .f64 (nanOf w x y)) w.drew := by
  have h' : FloatKind.f64.format.add x y = none := h
  simp [binOp, Op.floatArith, h', Question.forced, nanOf]

set_option maxHeartbeats 2000000 in
theorem observe_any (B p g : Nat) (ao : Option Addr) (n cap m v s : Nat) (f : Nat → Nat) (c : Nat → Int) (w : World) (hm : m ≤ 65537) (hnm : n < m) (hf : Fl B w ao n f) (ha : Asc n f) (h : Hi B w p g ao n cap m c s) :
    Calls Try.prog 10 #[.pointer (some ⟨p, 0, none⟩), .float .f64 v] w fun e w' => e = .returned (.tuple #[]) ∧ ∃ k s' : Nat, IsIx n (fun i => le v (f i)) k ∧ SumIs s v s' ∧ Hi B w' p g ao n cap m (bump c k) s' ∧ Below B w w' := by
  have hp := lt_of_block h.hist
  have hBp := h.low
  have hBg := h.ge
  have hSch := searchF_any B ao n cap v f w.drew (by omega) (by simp only [World.drew]; omega) hf ha
  have d0 := three0 h.hist
  have d1 := three1 h.hist
  have H0 : Hid (Hi B w p g ao n cap m c s) := h
  clear h hf ha
  go_enter Try.func10, Try.ntmps10
  go_wp2_with fail
  go_region_with (first
    | (go_at_call 17; refine hSch.mono ?_; rintro e w1 ⟨⟨k, rfl, hk⟩, hb⟩; have hb' : Below w.heap.size w w1 := ⟨hb.os, hb.tape, hb.output, hb.size, hb.block⟩; have hkm : (k : Int) < (m : Int) := (by have := hk.1; omega); have H1 : Hid (Hi B w1 p g ao n cap m c s ∧ IsIx n (fun i => le v (f i)) k ∧ Below B w w1) := ⟨H0.out.later hb' (Nat.le_refl _), hk, hb'.mono (by omega)⟩; have e1 := cell_later hb' d1; clear hk hb hb')
    | (go_at_call 18; refine (add1_any g k (c k) w1 (H1.out.1.cell k (by omega)) (H1.out.1.free k)).mono ?_; rintro e w2 ⟨rfl, hw2⟩; have H2 : Hid (Hi B w2 p g ao n cap m (bump c k) s ∧ IsIx n (fun i => le v (f i)) k ∧ Below B w w2) := ⟨hw2 ▸ H1.out.1.bumped k (by omega), H1.out.2.1, hw2 ▸ H1.out.2.2.setCell hBg _⟩; clear hw2))
  all_goals
    have hc2 := three2 H2.out.1.hist
    have hz2 := three_free H2.out.1.hist 2
    have hL := load_any p 2 s w2 hc2
    clear H1 H0 hSch e1
    go_wp2_with fail
    refine wp_loop_rounds 1 ?_
    rw [rounds_succ]
    go_wp2_with fail
    refine hL.mono ?_
    rintro e w3 ⟨rfl, rfl⟩
    clear hL
    go_wp2_with fail
    have hfb : ∀ w, (callFunc 14 #[.int .u64 (s : Int)]).run Try.prog w = .ok (.value (.float .f64 s)) w := fun w => frombits_run (s : Int) w
    have hbt := bits_run
    cases hadd : Ieee.double.add s v with
    | some r =>
      have hA := add_some s v r hadd
      go_region_with (go_at_call 20; refine (cas_any p 2 (s : Int) _ _ (by exact hc2) (by exact hz2)).mono ?_; rintro e w4 ⟨rfl, rfl⟩)
      all_goals
        go_wp2_with fail
        exact bodyPost_ret (results_none rfl _ _ _) rfl ⟨rfl, k, r, H2.out.2.1, .inl hadd, (H2.out.1.summed r).drew, (H2.out.2.2.setCell hBp _).drew⟩
    | none =>
      have hA := add_none s v hadd
      go_region_with (go_at_call 20; refine (cas_any p 2 (s : Int) _ _ (by exact hc2) (by exact hz2)).mono ?_; rintro e w4 ⟨rfl, rfl⟩)
      all_goals
        go_wp2_with fail
        exact bodyPost_ret (results_none rfl _ _ _) rfl ⟨rfl, k, nanOf _ s v, H2.out.2.1, .inr ⟨hadd, nanOf_nan _ _ _⟩, (H2.out.1.summed _).drew.drew, (H2.out.2.2.setCell hBp _).drew.drew⟩

end Go.Proofs.Qxb6628331a
