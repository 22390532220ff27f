/- The law's walk. -/
import Derived.Test.Qxb6628327aCallees
namespace Go.Proofs.Qxb6628327a
open Go.RowKit
attribute [local go_sem] run_store_float

set_option maxHeartbeats 400000 in
theorem bytes_no (a b c d : ByteArray) (num : Nat) (st en ot : Int) (w : World) (ha : a.size ≤ maxLen) (hb : b.size ≤ maxLen) (hc : c.size ≤ maxLen) (hd : d.size ≤ maxLen) (h : ¬ a.size + b.size + c.size + d.size ≤ 1048576) :
    Calls Try.prog 4 #[.string a, .string b, .string c, .string d, .float .f64 num, .int .i64 st, .int .i64 en, .int .i64 ot] w fun e w' => e = .returned (.bool false) ∧ w' = w := by
  unfold maxLen at ha hb hc hd
  by_cases h1 : a.size ≤ 1048576
  · by_cases h2 : b.size ≤ 1048576
    · by_cases h3 : a.size + b.size ≤ 1048576
      · by_cases h4 : c.size ≤ 1048576
        · by_cases h5 : a.size + b.size + c.size ≤ 1048576
          · by_cases h6 : d.size ≤ 1048576
            · go_enter Try.func4, Try.ntmps4
              go_wp2
              go_ret
              exact ⟨rfl, rfl⟩
            · go_enter Try.func4, Try.ntmps4
              go_wp2
              go_ret
              exact ⟨rfl, rfl⟩
          · go_enter Try.func4, Try.ntmps4
            go_wp2
            go_ret
            exact ⟨rfl, rfl⟩
        · go_enter Try.func4, Try.ntmps4
          go_wp2
          go_ret
          exact ⟨rfl, rfl⟩
      · go_enter Try.func4, Try.ntmps4
        go_wp2
        go_ret
        exact ⟨rfl, rfl⟩
    · go_enter Try.func4, Try.ntmps4
      go_wp2
      go_ret
      exact ⟨rfl, rfl⟩
  · go_enter Try.func4, Try.ntmps4
    go_wp2
    go_ret
    exact ⟨rfl, rfl⟩

theorem bytes_yes (a b c d : ByteArray) (num : Nat) (st en ot : Int) (w : World) (h : a.size + b.size + c.size + d.size ≤ 1048576) :
    Calls Try.prog 4 #[.string a, .string b, .string c, .string d, .float .f64 num, .int .i64 st, .int .i64 en, .int .i64 ot] w fun e w' => e = .returned (.bool true) ∧ w' = w := by
  go_enter Try.func4, Try.ntmps4
  go_wp2
  go_ret
  exact ⟨rfl, rfl⟩

theorem main_big (a b c d : ByteArray) (num : Nat) (st en ot : Int) (w : World) (ha : a.size ≤ maxLen) (hb : b.size ≤ maxLen) (hc : c.size ≤ maxLen) (hd : d.size ≤ maxLen) (h : ¬ a.size + b.size + c.size + d.size ≤ 1048576) :
    Calls Try.prog 3 #[.string a, .string b, .string c, .string d, .float .f64 num, .int .i64 st, .int .i64 en, .int .i64 ot] w fun e w' => e = .returned (.bool true) ∧ Below w.heap.size w w' := by
  have hB := bytes_no a b c d num st en ot w ha hb hc hd h
  go_enter Try.func3, Try.ntmps3
  go_wp2_with fail
  refine hB.mono ?_
  rintro e w1 ⟨rfl, rfl⟩
  go_wp2_with fail
  go_ret
  exact ⟨rfl, Below.refl _ _⟩

/-- How many of the kinds below k startsStep says yes at. -/
def cnt (a : Bool) : Nat → Nat
  | 0 => 0
  | k + 1 => cnt a k + (if stepB (k : Int) a then 1 else 0)
theorem cnt_le (a : Bool) (k : Nat) : cnt a k ≤ k := by
  induction k with
  | zero => simp [cnt]
  | succ k ih => unfold cnt; split <;> omega
theorem cnt_nine (a : Bool) : cnt a 9 = if a then 4 else 3 := by cases a <;> decide

/-- The world behind make, ZZnewToken, the store and ZZnewParser: what stands in it. -/
structure Made (w w' : World) (kind : Int) (text pre loc val : ByteArray) (num : Nat) (st en : Int) (p g : Nat) : Prop where
  par : w'.heap[p]? = some (.cells #[.slice (some ⟨g, 0, none⟩) 1 1, .int .i64 0] 37 (0, 0))
  tk : w'.heap[g]? = some (.cells (tok kind text pre loc val num st en) 29 (0, 0))
  bel : Below w.heap.size w w'

theorem parser_step (kind : Int) (text pre loc val : ByteArray) (num : Nat) (st en : Int) (w : World) :
    Calls Try.prog 7 #[.slice (some ⟨w.heap.size, 0, none⟩) 1 1, .int .i64 0]
      ((w.alloc (.cells #[.int .i64 kind, .int .i64 st, .int .i64 en, .string text, .string pre, .string loc, .string val, .float .f64 num] 29)).alloc (.cells #[.int .i64 kind, .int .i64 st, .int .i64 en, .string text, .string pre, .string loc, .string val, .float .f64 num] 29))
      fun e w' => e = .returned (.pointer (some ⟨w.heap.size + 2, 0, none⟩)) ∧ Made w w' kind text pre loc val num st en (w.heap.size + 2) w.heap.size := by
  refine (newParser_any w.heap.size _).mono ?_
  rintro e w' ⟨rfl, rfl⟩
  refine ⟨by simp, ?_, ?_, ?_⟩
  · have h := heap_alloc_new ((w.alloc (.cells #[.int .i64 kind, .int .i64 st, .int .i64 en, .string text, .string pre, .string loc, .string val, .float .f64 num] 29)).alloc (.cells #[.int .i64 kind, .int .i64 st, .int .i64 en, .string text, .string pre, .string loc, .string val, .float .f64 num] 29)) (.cells #[.slice (some ⟨w.heap.size, 0, none⟩) 1 1, .int .i64 0] 37)
    simpa using h
  · rw [Below.heap_alloc _ _ _ (by simp; omega), Below.heap_alloc _ _ _ (by simp), heap_alloc_new]
    rfl
  · exact ((((Below.refl _ _).alloc (Nat.le_refl _) _).alloc (by simp) _).alloc (by simp; omega) _)

theorem starts_step {w w' : World} {kind : Int} {text pre loc val : ByteArray} {num : Nat} {st en : Int} {p g : Nat} (h : Made w w' kind text pre loc val num st en p g) (s : Bool) (hs : stepB kind (abbr text) = s) :
    Calls Try.prog 6 #[.pointer (some ⟨p, 0, none⟩)] w' fun e w2 => e = .returned (.bool s) ∧ Below w.heap.size w w2 := by
  refine (callStarts_any p g kind text pre loc val num st en w' h.par h.tk).mono ?_
  rintro e w2 ⟨rfl, hb⟩
  exact ⟨by rw [hs], h.bel.trans (hb.mono h.bel.size)⟩

theorem cnt_yes {a : Bool} {j : Nat} (h : stepB (j : Int) a = true) : cnt a (j + 1) = cnt a j + 1 := by simp [cnt, h]
theorem cnt_no {a : Bool} {j : Nat} (h : stepB (j : Int) a = false) : cnt a (j + 1) = cnt a j := by simp [cnt, h]
theorem step_out {k : Int} {a : Bool} (h : k < 0 ∨ 8 < k) : stepB k a = false := by
  unfold stepB
  have h1 : (k == 1) = false := by simp; omega
  have h3 : (k == 3) = false := by simp; omega
  have h4 : (k == 4) = false := by simp; omega
  have h6 : (k == 6) = false := by simp; omega
  simp [h1, h3, h4, h6]

set_option maxHeartbeats 1000000 in
theorem main_walk (a b c d : ByteArray) (num : Nat) (st en ot : Int) (w : World) (h : a.size + b.size + c.size + d.size ≤ 1048576) :
    Calls Try.prog 3 #[.string a, .string b, .string c, .string d, .float .f64 num, .int .i64 st, .int .i64 en, .int .i64 ot] w fun e w' => e = .returned (.bool true) ∧ Below w.heap.size w w' := by
  have hmk : ∀ w, (Instr.makeSlice 24 (.int .i64 1) (.int .i64 1)).run Try.prog w = .ok (.slice (some ⟨w.heap.size, 0, none⟩) 1 1) (w.alloc (.cells #[.int .i64 0, .int .i64 0, .int .i64 0, .string ByteArray.empty, .string ByteArray.empty, .string ByteArray.empty, .string ByteArray.empty, .float .f64 0] 29)) := fun _ => by kernel_rfl
  have hB := bytes_yes a b c d num st en ot w h
  go_enter Try.func3, Try.ntmps3
  go_wp2_with fail
  refine hB.mono ?_
  rintro e w1 ⟨rfl, rfl⟩
  clear hB
  go_wp2_with fail
  go_loopw [17, 18] (fun n k wr => ∃ j : Nat, j ≤ 9 ∧ k = .int .i64 j ∧ n = .int .i64 (cnt (abbr a) j) ∧ Below w1.heap.size w1 wr) (fun _ k _ => 9 - (intOf k).toNat)
  case atStart => exact ⟨0, by omega, rfl, rfl, Below.refl _ _⟩
  case round =>
    obtain ⟨j, hj, rfl, rfl, hb⟩ := hrel
    have hcl := cnt_le (abbr a) j
    by_cases hlt : j < 9
    · go_wp2_with fail
      refine (newToken_any j a b c d num st en _).mono ?_
      rintro e w2 ⟨rfl, rfl⟩
      unfold tok
      go_wp2_with fail
      refine (parser_step j a b c d num st en wr).mono ?_
      rintro e w3 ⟨rfl, M⟩
      cases hs : stepB (j : Int) (abbr a)
      · go_wp2_with fail
        refine (starts_step M false hs).mono ?_
        rintro e w4 ⟨rfl, hb4⟩
        have HC : Hid (cnt (abbr a) (j + 1) = cnt (abbr a) j) := cnt_no hs
        have hb5 : Below w1.heap.size w1 w4 := hb.trans (hb4.mono hb.size)
        clear M hs hb4 hb
        go_wp2_with fail
        go_roundw
        case rel => exact ⟨j + 1, by omega, by go_num, by rw [HC.out], hb5⟩
        case measure => simp [intOf]; omega
      · go_wp2_with fail
        refine (starts_step M true hs).mono ?_
        rintro e w4 ⟨rfl, hb4⟩
        have HC : Hid (cnt (abbr a) (j + 1) = cnt (abbr a) j + 1) := cnt_yes hs
        have hb5 : Below w1.heap.size w1 w4 := hb.trans (hb4.mono hb.size)
        clear M hs hb4 hb
        go_wp2_with fail
        go_roundw
        case rel => exact ⟨j + 1, by omega, by go_num, by rw [HC.out]; go_num, hb5⟩
        case measure => simp [intOf]; omega
    · have hj9 : j = 9 := by omega
      subst hj9
      rw [cnt_nine]
      clear hcl hlt hj
      cases ha : abbr a
      · go_wp2_with fail
        refine (isAbbr_any a wr).mono ?_
        rintro e w2 ⟨rfl, rfl⟩
        rw [ha]
        by_cases ho : ot < 0 ∨ 8 < ot
        · have hs : stepB ot (abbr a) = false := step_out ho
          clear ha
          rcases ho with ho | ho
          · go_wp2_with fail
            refine (newToken_any ot a b c d num st en _).mono ?_
            rintro e w3 ⟨rfl, rfl⟩
            unfold tok
            go_wp2_with fail
            refine (parser_step ot a b c d num st en w2).mono ?_
            rintro e w4 ⟨rfl, M⟩
            go_wp2_with fail
            refine (starts_step M false hs).mono ?_
            rintro e w5 ⟨rfl, hb5⟩
            have hb6 : Below w1.heap.size w1 w5 := hb.trans (hb5.mono hb.size)
            clear M hb5 hb hs
            go_wp2_with fail
            go_ret
            exact ⟨rfl, hb6⟩
          · have ho2 : ¬ ot < 0 := by omega
            go_wp2_with fail
            refine (newToken_any ot a b c d num st en _).mono ?_
            rintro e w3 ⟨rfl, rfl⟩
            unfold tok
            go_wp2_with fail
            refine (parser_step ot a b c d num st en w2).mono ?_
            rintro e w4 ⟨rfl, M⟩
            go_wp2_with fail
            refine (starts_step M false hs).mono ?_
            rintro e w5 ⟨rfl, hb5⟩
            have hb6 : Below w1.heap.size w1 w5 := hb.trans (hb5.mono hb.size)
            clear M hb5 hb hs
            go_wp2_with fail
            go_ret
            exact ⟨rfl, hb6⟩
        · have ho1 : ¬ ot < 0 := by omega
          have ho2 : ¬ 8 < ot := by omega
          clear ho ha
          go_wp2_with fail
          go_ret
          exact ⟨rfl, hb⟩
      · go_wp2_with fail
        refine (isAbbr_any a wr).mono ?_
        rintro e w2 ⟨rfl, rfl⟩
        rw [ha]
        by_cases ho : ot < 0 ∨ 8 < ot
        · have hs : stepB ot (abbr a) = false := step_out ho
          clear ha
          rcases ho with ho | ho
          · go_wp2_with fail
            refine (newToken_any ot a b c d num st en _).mono ?_
            rintro e w3 ⟨rfl, rfl⟩
            unfold tok
            go_wp2_with fail
            refine (parser_step ot a b c d num st en w2).mono ?_
            rintro e w4 ⟨rfl, M⟩
            go_wp2_with fail
            refine (starts_step M false hs).mono ?_
            rintro e w5 ⟨rfl, hb5⟩
            have hb6 : Below w1.heap.size w1 w5 := hb.trans (hb5.mono hb.size)
            clear M hb5 hb hs
            go_wp2_with fail
            go_ret
            exact ⟨rfl, hb6⟩
          · have ho2 : ¬ ot < 0 := by omega
            go_wp2_with fail
            refine (newToken_any ot a b c d num st en _).mono ?_
            rintro e w3 ⟨rfl, rfl⟩
            unfold tok
            go_wp2_with fail
            refine (parser_step ot a b c d num st en w2).mono ?_
            rintro e w4 ⟨rfl, M⟩
            go_wp2_with fail
            refine (starts_step M false hs).mono ?_
            rintro e w5 ⟨rfl, hb5⟩
            have hb6 : Below w1.heap.size w1 w5 := hb.trans (hb5.mono hb.size)
            clear M hb5 hb hs
            go_wp2_with fail
            go_ret
            exact ⟨rfl, hb6⟩
        · have ho1 : ¬ ot < 0 := by omega
          have ho2 : ¬ 8 < ot := by omega
          clear ho ha
          go_wp2_with fail
          go_ret
          exact ⟨rfl, hb⟩
end Go.Proofs.Qxb6628327a
