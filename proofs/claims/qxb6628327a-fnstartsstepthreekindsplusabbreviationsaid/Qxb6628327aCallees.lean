/- The callees: contracts. -/
import Derived.Test.Qxb6628327aRows
import Derived.WalkKit
import Derived.WalkSpells
import Derived.WalkLawsBesides
import Derived.Deep.LoopGhost
namespace Go.Proofs.Qxb6628327a
open Go.RowKit

theorem run_store_float (P : Program) (w : World) (a : Addr) (m : Mode) (k : FloatKind) (b : Nat) : (store a (.float k b) m).run P w = stored P w a (.float k b) m := run_store P w a _ m rfl
attribute [local go_sem] run_store_float

/-- The text is '.', '..' or '@'. -/
def abbr (s : ByteArray) : Bool := s.toList == [46] || s.toList == [46, 46] || s.toList == [64]

theorem isAbbr_any (s : ByteArray) (w : World) :
    Calls Try.prog 8 #[.string s] w fun e w' => e = .returned (.bool (abbr s)) ∧ w' = w := by
  unfold abbr
  cases h1 : s.toList == [46]
  · cases h2 : s.toList == [46, 46]
    · cases h3 : s.toList == [64]
      · go_enter Try.func8, Try.ntmps8
        go_wp2
        go_ret
        exact ⟨rfl, rfl⟩
      · go_enter Try.func8, Try.ntmps8
        go_wp2
        go_ret
        exact ⟨rfl, rfl⟩
    · go_enter Try.func8, Try.ntmps8
      go_wp2
      go_ret
      exact ⟨rfl, rfl⟩
  · go_enter Try.func8, Try.ntmps8
    go_wp2
    go_ret
    exact ⟨rfl, rfl⟩

/-- The token's cells. -/
def tok (kind : Int) (text pre loc val : ByteArray) (num : Nat) (st en : Int) : Array Value :=
  #[.int .i64 kind, .int .i64 st, .int .i64 en, .string text, .string pre, .string loc, .string val, .float .f64 num]

theorem newToken_any (kind : Int) (text pre loc val : ByteArray) (num : Nat) (st en : Int) (w : World) :
    Calls Try.prog 5 #[.int .i64 kind, .string text, .string pre, .string loc, .string val, .float .f64 num, .int .i64 st, .int .i64 en] w fun e w' => e = .returned (.agg (tok kind text pre loc val num st en)) ∧ w' = w.alloc (.cells (tok kind text pre loc val num st en) 29) := by
  go_enter Try.func5, Try.ntmps5
  go_wp2
  exact bodyPost_ret (v := .agg (tok kind text pre loc val num st en)) (by simp [results, Try.results5, go_sem, tok]) rfl ⟨rfl, rfl⟩

theorem newParser_any (g : Nat) (w : World) :
    Calls Try.prog 7 #[.slice (some ⟨g, 0, none⟩) 1 1, .int .i64 0] w fun e w' => e = .returned (.pointer (some ⟨w.heap.size, 0, none⟩)) ∧ w' = w.alloc (.cells #[.slice (some ⟨g, 0, none⟩) 1 1, .int .i64 0] 37) := by
  go_enter Try.func7, Try.ntmps7
  go_wp2
  go_ret
  exact ⟨rfl, rfl⟩

/-- A block of cells, all read at once. -/
theorem cells8 {w : World} {g : Nat} {a0 a1 a2 a3 a4 a5 a6 a7 : Value} {t : TypeId} (h : w.heap[g]? = some (.cells #[a0, a1, a2, a3, a4, a5, a6, a7] t (0, 0))) :
    w.cell? ⟨g, 0, none⟩ = some a0 ∧ w.cell? ⟨g, 1, none⟩ = some a1 ∧ w.cell? ⟨g, 2, none⟩ = some a2 ∧ w.cell? ⟨g, 3, none⟩ = some a3 ∧ w.cell? ⟨g, 4, none⟩ = some a4 ∧ w.cell? ⟨g, 5, none⟩ = some a5 ∧ w.cell? ⟨g, 6, none⟩ = some a6 ∧ w.cell? ⟨g, 7, none⟩ = some a7 := by
  simp [World.cell?, h]

set_option maxHeartbeats 1000000 in
theorem peek_any (p g : Nat) (kind : Int) (text pre loc val : ByteArray) (num : Nat) (st en : Int) (w : World)
    (hp : w.heap[p]? = some (.cells #[.slice (some ⟨g, 0, none⟩) 1 1, .int .i64 0] 37 (0, 0))) (hg : w.heap[g]? = some (.cells (tok kind text pre loc val num st en) 29 (0, 0))) :
    Calls Try.prog 10 #[.pointer (some ⟨p, 0, none⟩)] w fun e w' => e = .returned (.agg (tok kind text pre loc val num st en)) ∧ Below w.heap.size w w' := by
  have hpl := lt_of_block hp
  have hgl := lt_of_block hg
  obtain ⟨c0, c1, c2, c3, c4, c5, c6, c7⟩ := cells8 hg
  have d0 : w.cell? ⟨p, 0, none⟩ = some (.slice (some ⟨g, 0, none⟩) 1 1) := by simp [World.cell?, hp]
  have d1 : w.cell? ⟨p, 1, none⟩ = some (.int .i64 0) := by simp [World.cell?, hp]
  clear hp hg
  go_enter Try.func10, Try.ntmps10
  go_wp2
  go_region
  all_goals
    go_wp2
    exact bodyPost_ret (v := .agg (tok kind text pre loc val num st en)) (by simp [results, Try.results10, go_sem, tok]) rfl ⟨rfl, ((Below.refl _ _).alloc (Nat.le_refl _) _).drew⟩

set_option maxHeartbeats 1000000 in
theorem index_any (g : Nat) (s : ByteArray) (w : World) (c0 : w.cell? ⟨g, 0, none⟩ = some (.string ⟨#[46]⟩)) (c1 : w.cell? ⟨g, 1, none⟩ = some (.string ⟨#[46, 46]⟩)) (c2 : w.cell? ⟨g, 2, none⟩ = some (.string ⟨#[64]⟩)) :
    Calls Try.prog 12 #[.slice (some ⟨g, 0, none⟩) 3 3, .string s] w fun e w' => e = .returned (.int .i64 (if s.toList == [46] then 0 else if s.toList == [46, 46] then 1 else if s.toList == [64] then 2 else -1)) ∧ w' = w := by
  cases h1 : s.toList == [46]
  · cases h2 : s.toList == [46, 46]
    · cases h3 : s.toList == [64]
      · go_enter Try.func12, Try.ntmps12
        go_wp2
        refine wp_loop_rounds 4 ?_
        rw [rounds_succ]
        go_wp2
        rw [rounds_succ]
        go_wp2
        rw [rounds_succ]
        go_wp2
        rw [rounds_succ]
        go_wp2
        go_ret
        exact ⟨rfl, rfl⟩
      · go_enter Try.func12, Try.ntmps12
        go_wp2
        refine wp_loop_rounds 3 ?_
        rw [rounds_succ]
        go_wp2
        rw [rounds_succ]
        go_wp2
        rw [rounds_succ]
        go_wp2
        go_ret
        exact ⟨rfl, rfl⟩
    · go_enter Try.func12, Try.ntmps12
      go_wp2
      refine wp_loop_rounds 2 ?_
      rw [rounds_succ]
      go_wp2
      rw [rounds_succ]
      go_wp2
      go_ret
      exact ⟨rfl, rfl⟩
  · go_enter Try.func12, Try.ntmps12
    go_wp2
    refine wp_loop_rounds 1 ?_
    rw [rounds_succ]
    go_wp2
    go_ret
    exact ⟨rfl, rfl⟩

theorem idx_nonneg (s : ByteArray) : decide ((0 : Int) ≤ (if s.toList == [46] then 0 else if s.toList == [46, 46] then 1 else if s.toList == [64] then 2 else -1)) = abbr s := by
  unfold abbr
  cases h1 : s.toList == [46] <;> cases h2 : s.toList == [46, 46] <;> cases h3 : s.toList == [64] <;> simp

theorem contains_any (g : Nat) (s : ByteArray) (w : World) (c0 : w.cell? ⟨g, 0, none⟩ = some (.string ⟨#[46]⟩)) (c1 : w.cell? ⟨g, 1, none⟩ = some (.string ⟨#[46, 46]⟩)) (c2 : w.cell? ⟨g, 2, none⟩ = some (.string ⟨#[64]⟩)) :
    Calls Try.prog 11 #[.slice (some ⟨g, 0, none⟩) 3 3, .string s] w fun e w' => e = .returned (.bool (abbr s)) ∧ w' = w := by
  have hI := index_any g s w c0 c1 c2
  have hN := idx_nonneg s
  obtain ⟨r, hr⟩ : ∃ r : Int, (if s.toList == [46] then 0 else if s.toList == [46, 46] then 1 else if s.toList == [64] then 2 else -1) = r := ⟨_, rfl⟩
  rw [hr] at hI hN
  clear hr c0 c1 c2
  rw [← hN]
  clear hN
  go_enter Try.func11, Try.ntmps11
  go_wp2_with fail
  refine hI.mono ?_
  rintro e w1 ⟨rfl, rfl⟩
  go_wp2_with fail
  go_ret
  exact ⟨rfl, rfl⟩

/-- startsStep's answer. -/
def stepB (kind : Int) (a : Bool) : Bool := kind == 3 || kind == 4 || kind == 6 || (kind == 1 && a)

set_option maxHeartbeats 1000000 in
theorem starts_any (p g : Nat) (kind : Int) (text pre loc val : ByteArray) (num : Nat) (st en : Int) (w : World)
    (hp : w.heap[p]? = some (.cells #[.slice (some ⟨g, 0, none⟩) 1 1, .int .i64 0] 37 (0, 0))) (hg : w.heap[g]? = some (.cells (tok kind text pre loc val num st en) 29 (0, 0))) :
    Calls Try.prog 9 #[.pointer (some ⟨p, 0, none⟩)] w fun e w' => e = .returned (.bool (stepB kind (abbr text))) ∧ Below w.heap.size w w' := by
  unfold stepB
  have hP := peek_any p g kind text pre loc val num st en w hp hg
  clear hp hg
  cases h3 : (kind == 3)
  · cases h4 : (kind == 4)
    · cases h6 : (kind == 6)
      · cases h1 : (kind == 1)
        · go_enter Try.func9, Try.ntmps9
          go_wp2_with fail
          refine hP.mono ?_
          rintro e w1 ⟨rfl, b1⟩
          unfold tok
          go_wp2_with fail
          go_ret
          exact ⟨rfl, b1.alloc b1.size _⟩
        · go_enter Try.func9, Try.ntmps9
          go_wp2_with fail
          refine hP.mono ?_
          rintro e w1 ⟨rfl, b1⟩
          unfold tok
          go_wp2_with fail
          refine (contains_any _ text _ (by simp) (by simp) (by simp)).mono ?_
          rintro e w2 ⟨rfl, rfl⟩
          go_wp2_with fail
          go_ret
          exact ⟨rfl, (b1.alloc b1.size _).alloc (by simp; have := b1.size; omega) _⟩
      · go_enter Try.func9, Try.ntmps9
        go_wp2_with fail
        refine hP.mono ?_
        rintro e w1 ⟨rfl, b1⟩
        unfold tok
        go_wp2_with fail
        go_ret
        exact ⟨rfl, b1.alloc b1.size _⟩
    · go_enter Try.func9, Try.ntmps9
      go_wp2_with fail
      refine hP.mono ?_
      rintro e w1 ⟨rfl, b1⟩
      unfold tok
      go_wp2_with fail
      go_ret
      exact ⟨rfl, b1.alloc b1.size _⟩
  · go_enter Try.func9, Try.ntmps9
    go_wp2_with fail
    refine hP.mono ?_
    rintro e w1 ⟨rfl, b1⟩
    unfold tok
    go_wp2_with fail
    go_ret
    exact ⟨rfl, b1.alloc b1.size _⟩

theorem callStarts_any (p g : Nat) (kind : Int) (text pre loc val : ByteArray) (num : Nat) (st en : Int) (w : World)
    (hp : w.heap[p]? = some (.cells #[.slice (some ⟨g, 0, none⟩) 1 1, .int .i64 0] 37 (0, 0))) (hg : w.heap[g]? = some (.cells (tok kind text pre loc val num st en) 29 (0, 0))) :
    Calls Try.prog 6 #[.pointer (some ⟨p, 0, none⟩)] w fun e w' => e = .returned (.bool (stepB kind (abbr text))) ∧ Below w.heap.size w w' := by
  have hS := starts_any p g kind text pre loc val num st en w hp hg
  clear hp hg
  go_enter Try.func6, Try.ntmps6
  go_wp2_with fail
  refine hS.mono ?_
  rintro e w1 ⟨rfl, b1⟩
  go_wp2_with fail
  go_ret
  exact ⟨rfl, b1⟩

end Go.Proofs.Qxb6628327a
