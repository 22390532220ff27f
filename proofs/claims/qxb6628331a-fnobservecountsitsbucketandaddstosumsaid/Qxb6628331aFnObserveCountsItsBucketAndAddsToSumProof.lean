/- 'Rows.FnObserveCountsItsBucketAndAddsToSumSaid' proved: the guide's frame, the walk by Qxb6628331aCounts. -/
import Derived.Test.Qxb6628331aOpen
import Derived.Test.Qxb6628331aCounts
namespace Go.Proofs.Qxb6628331a.fnObserveCountsItsBucketAndAddsToSum
open Go.ChangeShapes Go.WideShapes Go.ChangeAt Go.RowKit
set_option linter.unusedVariables false

theorem own : ownKnob Try.prog.godebug = none := by kernel_rfl
theorem laidOut : laidOutB Try.prog = true := by kernel_rfl

theorem walk (a0 : Option Addr) (len0 cap0 : Nat) (f0 : Nat → Nat) (a1 : Option Addr) (len1 cap1 : Nat) (f1 : Nat → Int) (a2 : Int) (a3 : Nat) (w : World) (w0 : IsFRow w a0 len0 cap0 f0) (w1 : IsURow w a1 len1 cap1 f1) (w2 : (Lit.int .u64 a2).wf = true) :
    Calls Try.prog 3 #[.slice a0 len0 cap0, .slice a1 len1 cap1, .int .u64 a2, .float .f64 a3] w fun e w' => e = .returned (.bool true) ∧ Below w.heap.size w w' := by
  obtain ⟨s, rfl⟩ : ∃ s : Nat, a2 = (s : Int) := by
    have h := w2
    simp only [Lit.wf, Bool.and_eq_true, decide_eq_true_eq] at h
    have hmin : IntKind.u64.min = 0 := rfl
    exact ⟨a2.toNat, by omega⟩
  have hm0 : len0 ≤ maxLen := by
    rcases w0 with ⟨_, rfl, _⟩ | ⟨x, _, h1, h2, _⟩
    · exact Nat.zero_le _
    · omega
  have hm1 : len1 ≤ maxLen := by
    rcases w1 with ⟨_, rfl, _⟩ | ⟨x, _, h1, h2, _⟩
    · exact Nat.zero_le _
    · omega
  by_cases hd : len0 ≤ 65536 ∧ len1 ≤ 65536 ∧ len1 = len0 + 1
  · obtain ⟨h1, h2, h3⟩ := hd
    have hnil : a0 = none → len0 = 0 := by
      intro h
      rcases w0 with ⟨_, h, _⟩ | ⟨x, h', _⟩
      · exact h
      · rw [h] at h'; cases h'
    have hf : Fl w.heap.size w a0 len0 f0 := by
      by_cases h0 : len0 = 0
      · exact .inl h0
      · rcases w0 with ⟨_, h, _⟩ | ⟨x, rfl, h4, h5, hcell⟩
        · omega
        · obtain ⟨b, off, spot⟩ := x
          have hspot : spot = none := by simpa [Addr.add] using World.cell?_spot (hcell 0 (by omega))
          subst hspot
          have hc : ∀ i, i < cap0 → w.cell? ⟨b, off + i, none⟩ = some (.float .f64 (f0 i)) := fun i hi => by rw [← add_plain]; exact hcell i hi
          exact .inr ⟨b, off, rfl, World.block_lt_of_cell? _ _ (hc 0 (by omega)), fun i hi => hc i (by omega)⟩
    rcases w1 with ⟨_, h, _⟩ | ⟨x, rfl, h4, h5, hcell⟩
    · omega
    obtain ⟨b, off, spot⟩ := x
    have hspot : spot = none := by simpa [Addr.add] using World.cell?_spot (hcell 0 (by omega))
    subst hspot
    exact counts_main a0 len0 len1 cap0 b off cap1 s a3 f0 f1 w (by omega) h3 hnil hf (fun i hi => by rw [← add_plain]; exact hcell i (by omega))
  · exact counts_out a0 a1 len0 len1 cap0 cap1 s a3 w hm0 hm1 hd

set_option maxRecDepth 100000 in
theorem lifted (os : Os) (started : os.Started) (H : Type) (enc : TypeId × Value → H) :
    ReturnsInHanded {} Try.checked os 3 .any (Rows.fnObserveCountsItsBucketAndAddsToSumSpec.pre6 enc Try.prog Try.f3 Rows.fnObserveCountsItsBucketAndAddsToSumRow.domain false) (Rows.fnObserveCountsItsBucketAndAddsToSumSpec.post enc Try.prog Try.f3 false true false false) := by
  refine returnsInHanded_of_change (C := Try.checked) own started (by kernel_rfl) Try.func3
    (ChangeSpec.witness6 (enc := enc) (C := Try.checked) false ⟨#[], #[.slice none 0 0, .slice none 0 0, .int .u64 0, .float .f64 0], []⟩ 8 (by kernel_rfl) (by kernel_rfl) (by kernel_rfl) (by kernel_rfl)) ?_
  intro W base args ds gs before hval0 hW hcnd _
  have hval : ∀ (j : Nat) t v, Try.f3.params[j]? = some t → args[j]? = some v → Value.okWide Try.prog W .any base t v := hval0
  have hW' := hW
  obtain ⟨p, q, hA0, hV, rfl, hfz, hnd⟩ := hW
  have hA : DataW.TrodAll enc Try.prog W 0 (fun _ => true) true Try.f3.params.toList args.toList ds p := hA0
  rw [Try.params3] at hA hval
  obtain ⟨v0, vs0, d0, ds0, p0, q0, hargs, rfl, rfl, h0, r0⟩ := trodAll_cons hA
  obtain ⟨v1, vs1, d1, ds1, p1, q1, rfl, rfl, rfl, h1, r1⟩ := trodAll_cons r0
  obtain ⟨v2, vs2, d2, ds2, p2, q2, rfl, rfl, rfl, h2, r2⟩ := trodAll_cons r1
  obtain ⟨v3, vs3, d3, ds3, p3, q3, rfl, rfl, rfl, h3, r3⟩ := trodAll_cons r2
  obtain ⟨rfl, rfl, rfl⟩ := trodAll_nil r3
  obtain rfl : args = #[v0, v1, v2, v3] := by cases args; simp_all
  obtain ⟨rfl, rfl⟩ := trodVars_none hV
  obtain ⟨a0, len0, cap0, rfl⟩ := okWide_slice Try.underlying22 (hval 0 22 v0 rfl rfl)
  have k0 := h0
  have lt0 : ∀ x ∈ p0, x.block < W.heap.size := by obtain ⟨m, hm⟩ := k0; exact DataW.trod_lt m _ _ _ hm
  obtain ⟨f0, w0⟩ := open_floats h0
  obtain ⟨a1, len1, cap1, rfl⟩ := okWide_slice Try.underlying23 (hval 1 23 v1 rfl rfl)
  have k1 := h1
  have lt1 : ∀ x ∈ p1, x.block < W.heap.size := by obtain ⟨m, hm⟩ := k1; exact DataW.trod_lt m _ _ _ hm
  obtain ⟨f1, w1⟩ := open_uints h1
  obtain ⟨a2, rfl, rfl, rfl, w2⟩ := open_int Try.underlying24 (hval 2 24 v2 rfl rfl) h2
  obtain ⟨a3, rfl, rfl, rfl, w3⟩ := open_float Try.underlying25 (hval 3 25 v3 rfl rfl) h3
  clear hA0 hval0
  refine (walk a0 len0 cap0 f0 a1 len1 cap1 f1 a2 a3 W w0 w1 w2).mono fun e W' ⟨he, bel⟩ => ?_
  subst he
  exact ⟨_, rfl, _, _, _, [], _, [], hW', trodAll_mk1 (shut_bool Try.underlying4 _), (trodAll_cons_mk (Below.trod laidOut (by kernel_rfl) (of_decide_eq_true (by kernel_rfl)) k0 bel lt0) (trodAll_cons_mk (Below.trod laidOut (by kernel_rfl) (of_decide_eq_true (by kernel_rfl)) k1 bel lt1) (trodAll_cons_mk (shut_int Try.underlying24 w2) (trodAll_cons_mk (shut_float Try.underlying25 w3) trodAll_mk0)))), rfl, bel.frame _, fun h => by cases h⟩

theorem over : Rows.fnObserveCountsItsBucketAndAddsToSumRow.holds Try.pinned (OpenSpec.ofChange Rows.fnObserveCountsItsBucketAndAddsToSumSpec) :=
  OpenClaim.holds_of_wide 3 Try.f3 rfl rfl rfl rfl rfl rfl rfl ⟨rfl, rfl, rfl, rfl, rfl⟩ rfl rfl rfl rfl rfl (by kernel_rfl) Try.func3 (by kernel_rfl)
    (of_decide_eq_true (by kernel_rfl)) (by unfold Func.isWrapper; first | (rw [if_pos (by decide +kernel)]; kernel_rfl) | (rw [if_neg (by decide +kernel)]; exact ⟨rfl, rfl⟩))
    (fun os started H enc _ => lifted os started H enc)

end Go.Proofs.Qxb6628331a.fnObserveCountsItsBucketAndAddsToSum

/-- THE STATEMENT -/
theorem Go.Proofs.Qxb6628331a.observe_counts_its_bucket : Go.Proofs.Qxb6628331a.Rows.FnObserveCountsItsBucketAndAddsToSumSaid := Go.Proofs.Qxb6628331a.fnObserveCountsItsBucketAndAddsToSum.over
