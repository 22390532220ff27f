/- The state of the law's memory: what each step hands on. -/
import Derived.Test.Qxb6628187aRead
namespace Go.Proofs.Qxb6628187a
open Go.RowKit

/-- A slice that came in: nil; or empty; or its cells hold the numbers zs. -/
def Src (w : World) (ao : Option Addr) (len cap : Nat) (zs : List Int) : Prop :=
  zs.length = len ∧ ((ao = none ∧ len = 0 ∧ cap = 0) ∨ (∃ x, ao = some x ∧ len = 0) ∨
    ∃ b off, ao = some ⟨b, off, none⟩ ∧ ∀ i, i < len → w.cell? ⟨b, off + i, none⟩ = some (.int .u8 (zs.getD i 0)))

theorem Src.later {w w' : World} {ao : Option Addr} {len cap : Nat} {zs : List Int} (h : Src w ao len cap zs) (hb : Below w.heap.size w w') : Src w' ao len cap zs := by
  refine ⟨h.1, ?_⟩
  rcases h.2 with h | h | ⟨b, off, h1, h2⟩
  · exact .inl h
  · exact .inr (.inl h)
  · exact .inr (.inr ⟨b, off, h1, fun i hi => cell_later hb (h2 i hi)⟩)

set_option maxHeartbeats 400000 in
theorem clone_empty (x : Addr) (cap : Nat) (w : World) :
    Calls Try.prog 5 #[.slice (some x) 0 cap] w fun e w' => e = .returned (.slice (some ⟨w.heap.size, 0, none⟩) 0 0) ∧
      w'.ownsRow w.heap.size 5 1 (.slice (some ⟨w.heap.size, 0, none⟩) 0 0) 0 [] ∧ Below w.heap.size w w' := by
  have q22 : ∀ (w : World) (a : Option Addr) (n c n' c' : Nat), (binOp .eql 22 (.slice a n c) (.slice none n' c')).run Try.prog w = .ok (.bool a.isNone) w := fun w a n c n' c' => Lib.run_eql_slice_nil w _ _ a n c n' c' Try.underlying22
  obtain ⟨i0, hi, hz0, hz1, hz2⟩ := info_parts info5
  go_enter Try.func5, Try.ntmps5
  go_wp2_with (at_make; refine wpList_make_full _ rfl _ _ 22 rfl w.heap.size 5 i0 (.int .u8 0) 1 Try.underlying22 hi hz0 hz1 _ _ _ _ 0 rfl rfl rfl rfl ?c1 ?c2 ?c3 ?_)
  case c1 => rw [hz2]; omega
  case c2 => unfold maxLen; omega
  case c3 => exact Nat.le_refl _
  intro w1 hown hgrow
  have hb1 : Below w.heap.size w w1 := (Below.refl _ _).grown hgrow (Nat.le_refl _) (fun k hk => by cases hk)
  have hown1 : w1.ownsRow w.heap.size 5 1 (.slice (some ⟨w.heap.size, 0, none⟩) 0 0) 0 [] := by
    simpa [Value.cells, toList_madeCells_one] using hown
  clear hown hgrow hi hz0 hz1 hz2
  go_wp2
  refine wp_loop_rounds 1 ?_
  rw [rounds_succ]
  go_wp2
  go_ret
  exact ⟨rfl, hown1, hb1⟩

theorem clone_any (ao : Option Addr) (len cap : Nat) (zs : List Int) (w : World) (h : Src w ao len cap zs) (hlen : len ≤ 1048576) :
    Calls Try.prog 5 #[.slice ao len cap] w fun e w' => ∃ a' c', e = .returned (.slice a' len c') ∧
      w'.ownsRow w.heap.size 5 1 (.slice a' len c') len (zs.map U8) ∧ Below w.heap.size w w' := by
  obtain ⟨hz, h⟩ := h
  rcases h with ⟨rfl, rfl, rfl⟩ | ⟨x, rfl, rfl⟩ | ⟨b, off, rfl, hc⟩
  · obtain rfl := List.eq_nil_of_length_eq_zero hz
    refine (clone_nil w).mono ?_
    rintro e w' ⟨rfl, rfl⟩
    exact ⟨_, _, rfl, World.ownsRow_nil _ _ _ _, Below.refl _ _⟩
  · obtain rfl := List.eq_nil_of_length_eq_zero hz
    refine (clone_empty x cap w).mono ?_
    rintro e w' ⟨rfl, h1, h2⟩
    exact ⟨_, _, rfl, h1, h2⟩
  · refine (clone_some b off len cap zs w hz hlen hc).mono ?_
    rintro e w' ⟨rfl, h1, h2⟩
    exact ⟨_, _, rfl, h1, h2⟩

theorem newWriter_any (ao : Option Addr) (len cap : Nat) (r : Nat) (xs : List Value) (w : World) (h : w.ownsRow 0 5 1 (.slice ao len cap) len xs) :
    Calls Try.prog 6 #[.slice ao len cap, .int .u32 r] w fun e w' => e = .returned (.pointer (some ⟨w.heap.size, 0, none⟩)) ∧
      Wr w.heap.size r w' (.slice ao len cap) len xs ∧ Below w.heap.size w w' ∧ w.heap.size < w'.heap.size := by
  go_enter Try.func6, Try.ntmps6
  go_wp2
  go_ret
  exact ⟨rfl, ⟨heap_alloc_new _ _, h.alloc _⟩, (Below.refl _ _).alloc (Nat.le_refl _) _, by simp⟩

/-- What is owned stays owned where its block has not turned. -/
theorem own_same {w w' : World} {base base' : Nat} {e : TypeId} {size : Nat} {v : Value} {n : Nat} {xs : List Value} (h : w.ownsRow base e size v n xs) (hb : base' ≤ base)
    (hk : ∀ k, v.ownBlock = some k → w'.heap[k]? = w.heap[k]?) : w'.ownsRow base' e size v n xs := by
  refine ⟨h.1, ?_⟩
  rcases h.2 with h2 | ⟨g, cap, cur, rfl, hg, hh, r⟩
  · exact .inl h2
  · exact .inr ⟨g, cap, cur, rfl, by omega, (hk g rfl).trans hh, r⟩

/-- Three clones, two writers: what stands behind all of it. -/
theorem final_state {w w1 w2 w3 w4 w5 w6 w7 : World} {s0 s1 s2 s1' s2' : Value} {n n' n'' : Nat} {r r1 : Int} {xs ys zs : List Value}
    (o0 : w1.ownsRow w.heap.size 5 1 s0 n xs) (b0 : Below w.heap.size w w1)
    (o1 : w2.ownsRow w1.heap.size 5 1 s1 n xs) (b1 : Below w1.heap.size w1 w2)
    (o2 : w3.ownsRow w2.heap.size 5 1 s2 n xs) (b2 : Below w2.heap.size w2 w3)
    (b3 : Below w3.heap.size w3 w4) (z3 : w3.heap.size < w4.heap.size)
    (W5 : Wr w3.heap.size r1 w5 s1' n' ys) (f4 : Fr w3.heap.size s1 w4 s1' w5)
    (b5 : Below w5.heap.size w5 w6) (z5 : w5.heap.size < w6.heap.size)
    (W7 : Wr w5.heap.size r w7 s2' n'' zs) (f6 : Fr w5.heap.size s2 w6 s2' w7) :
    w7.ownsRow 0 5 1 s0 n xs ∧ Wr w3.heap.size r1 w7 s1' n' ys ∧ Wr w5.heap.size r w7 s2' n'' zs ∧ Below w.heap.size w w7 := by
  have e0 := b0.size
  have e1 := b1.size
  have e2 := b2.size
  have e3 := b3.size
  have e4 := f4.size
  have e5 := b5.size
  have e6 := f6.size
  have p1 : ∀ k, s1.ownBlock = some k → w1.heap.size ≤ k ∧ k < w2.heap.size := o1.lt
  have p2 : ∀ k, s2.ownBlock = some k → w2.heap.size ≤ k ∧ k < w3.heap.size := o2.lt
  have p0 : ∀ k, s0.ownBlock = some k → w.heap.size ≤ k ∧ k < w1.heap.size := o0.lt
  have old : ∀ k, k < w1.heap.size → w7.heap[k]? = w1.heap[k]? := by
    intro k hk
    rw [f6.block k (by omega) (by omega) (fun e => by have := p2 k e.symm; omega), b5.block k (by omega), f4.block k (by omega) (by omega) (fun e => by have := p1 k e.symm; omega), b3.block k (by omega), b2.block k (by omega), b1.block k hk]
  have q1 : ∀ k, s1'.ownBlock = some k → k ≠ w3.heap.size := fun k hk e => own_ne W5.own W5.block (by decide) (by rw [hk, e])
  refine ⟨own_same o0 (Nat.zero_le _) (fun k hk => old k (p0 k hk).2), ⟨?_, ?_⟩, W7, ?_⟩
  · rw [f6.block _ (by omega) (by omega) (fun e => by have := p2 _ e.symm; omega), b5.block _ (by omega)]
    exact W5.block
  · refine own_same W5.own (Nat.le_refl _) (fun k hk => ?_)
    have h5 : k < w5.heap.size := (W5.own.lt k hk).2
    rw [f6.block k (by omega) (by omega) (fun e => ?_), b5.block k h5]
    have h2 := p2 k e.symm
    rcases f4.lies with h | ⟨j, h, hj⟩
    · rw [hk] at h
      have := p1 k h.symm
      omega
    · rw [hk] at h
      cases h
      omega
  · exact ⟨f6.os.trans (b5.os.trans (f4.os.trans (b3.os.trans (b2.os.trans (b1.os.trans b0.os))))), f6.tape.trans (b5.tape.trans (f4.tape.trans (b3.tape.trans (b2.tape.trans (b1.tape.trans b0.tape))))),
      f6.output.trans (b5.output.trans (f4.output.trans (b3.output.trans (b2.output.trans (b1.output.trans b0.output))))), by omega, fun k hk => (old k (by omega)).trans (b0.block k hk)⟩

/-- The second slice is still owned when the first writer has written. -/
theorem second_own {w1 w2 w3 w4 w5 : World} {s1 s2 s1' : Value} {n : Nat} {xs : List Value}
    (o1 : w2.ownsRow w1.heap.size 5 1 s1 n xs) (o2 : w3.ownsRow w2.heap.size 5 1 s2 n xs)
    (b3 : Below w3.heap.size w3 w4) (f4 : Fr w3.heap.size s1 w4 s1' w5) : w5.ownsRow 0 5 1 s2 n xs := by
  refine own_same o2 (Nat.zero_le _) (fun k hk => ?_)
  have h := o2.lt k hk
  have e3 := b3.size
  rw [f4.block k (by omega) (by omega) (fun e => by have := (o1.lt k e.symm).2; omega), b3.block k h.2]

/-- The numbers that the writer lays. -/
def laid (zs : List Int) (v : Nat) : List Int := zs ++ List.replicate (pad zs.length) 0 ++ [(v : Int) % 256, (v : Int) / 256 % 256, (v : Int) / 65536 % 256, (v : Int) / 16777216]

theorem laid_map (zs : List Int) (v : Nat) : zs.map U8 ++ List.replicate (pad zs.length) (U8 0) ++ le4 v = (laid zs v).map U8 := by
  simp [laid, le4, U8]

theorem laid_length (zs : List Int) (v : Nat) : (laid zs v).length = zs.length + pad zs.length + 4 := by simp [laid]; omega

/-- A row that is owned and not empty. -/
theorem own_cells {w : World} {v : Value} {n : Nat} {ls : List Int} (h : w.ownsRow 0 5 1 v n (ls.map U8)) (hn : 0 < n) :
    ∃ g c, v = .slice (some ⟨g, 0, none⟩) n c ∧ n ≤ c ∧ ∀ j, j < n → w.cell? ⟨g, j, none⟩ = some (.int .u8 (ls.getD j 0)) := by
  have hl : ls.length = n := by simpa using h.1
  rcases h.2 with ⟨rfl, rfl⟩ | ⟨g, cap, cur, rfl, _, hg, hc, _⟩
  · omega
  · refine ⟨g, cap, rfl, hc, fun j hj => ?_⟩
    rw [h.cellAt j (by omega)]
    have : j < ls.length := by omega
    simp [this, U8]

theorem laid_orig (zs : List Int) (v j : Nat) (h : j < zs.length) : (laid zs v).getD j 0 = zs.getD j 0 := by
  have e : (laid zs v)[j]? = zs[j]? := by
    unfold laid
    rw [List.getElem?_append_left (by simp; omega), List.getElem?_append_left h]
  simp [List.getD, e]
theorem laid_zero (zs : List Int) (v j : Nat) (h : zs.length ≤ j) (h2 : j < zs.length + pad zs.length) : (laid zs v).getD j 0 = 0 := by
  have e : (laid zs v)[j]? = some 0 := by
    unfold laid
    rw [List.getElem?_append_left (by simp; omega), List.getElem?_append_right h, List.getElem?_replicate, if_pos (by omega)]
  simp [List.getD, e]
theorem laid_id (zs : List Int) (v j m : Nat) (hm : zs.length + pad zs.length = m) (hj : j < 4) : (laid zs v).getD (m + j) 0 = [(v : Int) % 256, (v : Int) / 256 % 256, (v : Int) / 65536 % 256, (v : Int) / 16777216].getD j 0 := by
  unfold laid
  rw [List.getD_eq_getElem?_getD, List.getD_eq_getElem?_getD, List.getElem?_append_right (by simp; omega)]
  congr 2
  simp; omega
theorem laid_own {w : World} {v : Value} {len m idn : Nat} {zs : List Int} (hz : zs.length = len) (hm : len + pad len = m)
    (h : w.ownsRow 0 5 1 v (len + pad len + 4) (zs.map U8 ++ List.replicate (pad len) (U8 0) ++ le4 idn)) :
    ∃ g c, v = .slice (some ⟨g, 0, none⟩) (m + 4) c ∧ m + 4 ≤ c ∧ ∀ j, j < m + 4 → w.cell? ⟨g, j, none⟩ = some (.int .u8 ((laid zs idn).getD j 0)) := by
  subst hz
  subst hm
  rw [laid_map] at h
  exact own_cells h (by omega)

theorem orig_cells {w : World} {ao : Option Addr} {c len : Nat} {zs : List Int} (h : w.ownsRow 0 5 1 (.slice ao len c) len (zs.map U8)) :
    len = 0 ∨ ∃ g, ao = some ⟨g, 0, none⟩ ∧ ∀ j, j < len → w.cell? ⟨g, j, none⟩ = some (.int .u8 (zs.getD j 0)) := by
  by_cases h0 : len = 0
  · exact .inl h0
  · obtain ⟨g, c', e, _, hc⟩ := own_cells h (by omega)
    cases e
    exact .inr ⟨g, rfl, hc⟩

end Go.Proofs.Qxb6628187a
