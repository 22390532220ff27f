/- 'Rows.FnObserveScriptCumulativeCountsSaid' proved: the guide's frame, the walk by Qxb6628331aScript. -/
import Derived.Test.Qxb6628331aOpen
import Derived.Test.Qxb6628331aScript
namespace Go.Proofs.Qxb6628331a.fnObserveScriptCumulativeCounts
open Go.ChangeShapes Go.WideShapes Go.ChangeAt Go.RowKit
set_option linter.unusedVariables false

theorem own : ownKnob Try.prog.godebug = none := by kernel_rfl
theorem laidOut : laidOutB Try.prog = true := by kernel_rfl

theorem len_le {w : World} {a : Option Addr} {len cap : Nat} {f : Nat → Nat} (h : IsFRow w a len cap f) : len ≤ maxLen := by
  rcases h with ⟨_, rfl, _⟩ | ⟨x, _, h1, h2, _⟩
  · exact Nat.zero_le _
  · omega

theorem nil_len {w : World} {a : Option Addr} {len cap : Nat} {f : Nat → Nat} (h : IsFRow w a len cap f) (hn : a = none) : len = 0 := by
  rcases h with ⟨_, h, _⟩ | ⟨x, h', _⟩
  · exact h
  · rw [hn] at h'; cases h'

theorem row_fl {w : World} {a : Option Addr} {len cap : Nat} {f : Nat → Nat} (h : IsFRow w a len cap f) : Fl w.heap.size w a len f := by
  by_cases h0 : len = 0
  · exact .inl h0
  · rcases h with ⟨_, h, _⟩ | ⟨x, rfl, h4, h5, hcell⟩
    · omega
    · obtain ⟨b, off, spot⟩ := x
      have hspot : spot = none := by simpa [Addr.add] using World.cell?_spot (hcell 0 (by omega))
      subst hspot
      have hc : ∀ i, i < cap → w.cell? ⟨b, off + i, none⟩ = some (.float .f64 (f i)) := fun i hi => by rw [← add_plain]; exact hcell i hi
      exact .inr ⟨b, off, rfl, World.block_lt_of_cell? _ _ (hc 0 (by omega)), fun i hi => hc i (by omega)⟩

theorem walk (a0 : Option Addr) (len0 cap0 : Nat) (f0 : Nat → Nat) (a1 : Option Addr) (len1 cap1 : Nat) (f1 : Nat → Nat) (w : World) (w0 : IsFRow w a0 len0 cap0 f0) (w1 : IsFRow w a1 len1 cap1 f1) :
    Calls Try.prog 4 #[.slice a0 len0 cap0, .slice a1 len1 cap1] w fun e w' => e = .returned (.bool true) ∧ Below w.heap.size w w' := by
  by_cases hd : len0 ≤ 4096 ∧ len1 ≤ 4096
  · exact script_main a0 a1 len0 len1 (len0 + 1) cap0 cap1 f0 f1 w hd.1 hd.2 rfl (nil_len w0) (nil_len w1) (row_fl w0) (row_fl w1)
  · exact script_out a0 a1 len0 len1 cap0 cap1 w (len_le w0) (len_le w1) hd

set_option maxRecDepth 100000 in
theorem lifted (os : Os) (started : os.Started) (H : Type) (enc : TypeId × Value → H) :
    ReturnsInHanded {} Try.checked os 4 .any (Rows.fnObserveScriptCumulativeCountsSpec.pre6 enc Try.prog Try.f4 Rows.fnObserveScriptCumulativeCountsRow.domain false) (Rows.fnObserveScriptCumulativeCountsSpec.post enc Try.prog Try.f4 false true false false) := by
  refine returnsInHanded_of_change (C := Try.checked) own started (by kernel_rfl) Try.func4
    (ChangeSpec.witness6 (enc := enc) (C := Try.checked) false ⟨#[], #[.slice none 0 0, .slice none 0 0], []⟩ 8 (by kernel_rfl) (by kernel_rfl) (by kernel_rfl) (by kernel_rfl)) ?_
  intro W base args ds gs before hval0 hW hcnd _
  have hval : ∀ (j : Nat) t v, Try.f4.params[j]? = some t → args[j]? = some v → Value.okWide Try.prog W .any base t v := hval0
  have hW' := hW
  obtain ⟨p, q, hA0, hV, rfl, hfz, hnd⟩ := hW
  have hA : DataW.TrodAll enc Try.prog W 0 (fun _ => true) true Try.f4.params.toList args.toList ds p := hA0
  rw [Try.params4] at hA hval
  obtain ⟨v0, vs0, d0, ds0, p0, q0, hargs, rfl, rfl, h0, r0⟩ := trodAll_cons hA
  obtain ⟨v1, vs1, d1, ds1, p1, q1, rfl, rfl, rfl, h1, r1⟩ := trodAll_cons r0
  obtain ⟨rfl, rfl, rfl⟩ := trodAll_nil r1
  obtain rfl : args = #[v0, v1] := by cases args; simp_all
  obtain ⟨rfl, rfl⟩ := trodVars_none hV
  obtain ⟨a0, len0, cap0, rfl⟩ := okWide_slice Try.underlying22 (hval 0 22 v0 rfl rfl)
  have k0 := h0
  have lt0 : ∀ x ∈ p0, x.block < W.heap.size := by obtain ⟨m, hm⟩ := k0; exact DataW.trod_lt m _ _ _ hm
  obtain ⟨f0, w0⟩ := open_floats h0
  obtain ⟨a1, len1, cap1, rfl⟩ := okWide_slice Try.underlying22 (hval 1 22 v1 rfl rfl)
  have k1 := h1
  have lt1 : ∀ x ∈ p1, x.block < W.heap.size := by obtain ⟨m, hm⟩ := k1; exact DataW.trod_lt m _ _ _ hm
  obtain ⟨f1, w1⟩ := open_floats h1
  clear hA0 hval0
  refine (walk a0 len0 cap0 f0 a1 len1 cap1 f1 W w0 w1).mono fun e W' ⟨he, bel⟩ => ?_
  subst he
  exact ⟨_, rfl, _, _, _, [], _, [], hW', trodAll_mk1 (shut_bool Try.underlying4 _), (trodAll_cons_mk (Below.trod laidOut (by kernel_rfl) (of_decide_eq_true (by kernel_rfl)) k0 bel lt0) (trodAll_cons_mk (Below.trod laidOut (by kernel_rfl) (of_decide_eq_true (by kernel_rfl)) k1 bel lt1) trodAll_mk0)), rfl, bel.frame _, fun h => by cases h⟩

theorem over : Rows.fnObserveScriptCumulativeCountsRow.holds Try.pinned (OpenSpec.ofChange Rows.fnObserveScriptCumulativeCountsSpec) :=
  OpenClaim.holds_of_wide 4 Try.f4 rfl rfl rfl rfl rfl rfl rfl ⟨rfl, rfl, rfl, rfl, rfl⟩ rfl rfl rfl rfl rfl (by kernel_rfl) Try.func4 (by kernel_rfl)
    (of_decide_eq_true (by kernel_rfl)) (by unfold Func.isWrapper; first | (rw [if_pos (by decide +kernel)]; kernel_rfl) | (rw [if_neg (by decide +kernel)]; exact ⟨rfl, rfl⟩))
    (fun os started H enc _ => lifted os started H enc)

end Go.Proofs.Qxb6628331a.fnObserveScriptCumulativeCounts

/-- THE STATEMENT -/
theorem Go.Proofs.Qxb6628331a.observe_script_cumulative : Go.Proofs.Qxb6628331a.Rows.FnObserveScriptCumulativeCountsSaid := Go.Proofs.Qxb6628331a.fnObserveScriptCumulativeCounts.over
