/- sameBytes, readLE32: the contracts. -/
import Derived.Test.Qxb6628187aWriter
import Derived.Deep.QuietTactic
import Derived.BigQuiet
import Derived.Lib.EndianBits
namespace Go.Proofs.Qxb6628187a
open Go.RowKit

theorem same_empty (ao bo : Option Addr) (ca cb : Nat) (w : World) :
    Calls Try.prog 10 #[.slice ao 0 ca, .slice bo 0 cb] w fun e w' => e = .returned (.bool true) ∧ ∃ nq, w' = w.drewN nq := by
  go_enter Try.func10, Try.ntmps10
  go_wp2
  refine wp_loop_rounds 1 ?_
  rw [rounds_succ]
  go_wp2
  go_ret
  exact ⟨rfl, 0, rfl⟩

set_option maxHeartbeats 400000 in
theorem same_true (g g' off off' n ca cb : Nat) (f : Nat → Int) (hn : n ≤ 2000000) (w : World)
    (h1 : ∀ i, i < n → w.cell? ⟨g, off + i, none⟩ = some (.int .u8 (f i))) (h2 : ∀ i, i < n → w.cell? ⟨g', off' + i, none⟩ = some (.int .u8 (f i))) :
    Calls Try.prog 10 #[.slice (some ⟨g, off, none⟩) n ca, .slice (some ⟨g', off', none⟩) n cb] w fun e w' => e = .returned (.bool true) ∧ ∃ nq, w' = w.drewN nq := by
  go_enter Try.func10, Try.ntmps10
  go_wp2
  go_loopw [5] (fun i wr => ∃ k nq : Nat, k ≤ n ∧ i = .int .i64 k ∧ wr = w.drewN nq) (fun i _ => n - (intOf i).toNat)
  case atStart => exact ⟨0, 0, Nat.zero_le _, rfl, rfl⟩
  case round =>
    obtain ⟨k, nq, hk, rfl, rfl⟩ := hrel
    by_cases hlt : k < n
    · have c1 : w.cell? ⟨g, off + k, none⟩ = some (.int .u8 (f k)) := h1 k hlt
      have c2 : w.cell? ⟨g', off' + k, none⟩ = some (.int .u8 (f k)) := h2 k hlt
      have hlt' : (k : Int) < (n : Int) := by omega
      clear h1 h2
      go_wp2
      go_quiet (fail)
      go_wp2
      go_roundw
      case rel => exact ⟨k + 1, _, by omega, by go_num, rfl⟩
      case measure => simp [intOf]; omega
    · go_wp2
      go_ret
      exact ⟨rfl, nq, rfl⟩

set_option maxHeartbeats 1000000 in
theorem read32_any (g o c : Nat) (z0 z1 z2 z3 : Int) (w : World) (h0 : 0 ≤ z0 ∧ z0 < 256) (h1 : 0 ≤ z1 ∧ z1 < 256) (h2 : 0 ≤ z2 ∧ z2 < 256) (h3 : 0 ≤ z3 ∧ z3 < 256)
    (c0 : w.cell? ⟨g, o, none⟩ = some (.int .u8 z0)) (c1 : w.cell? ⟨g, o + 1, none⟩ = some (.int .u8 z1)) (c2 : w.cell? ⟨g, o + 2, none⟩ = some (.int .u8 z2)) (c3 : w.cell? ⟨g, o + 3, none⟩ = some (.int .u8 z3)) :
    Calls Try.prog 11 #[.slice (some ⟨g, o, none⟩) 4 c] w fun e w' => e = .returned (.int .u32 (z0 + z1 * 256 + z2 * 65536 + z3 * 16777216)) ∧ ∃ nq, w' = w.drewN nq := by
  obtain ⟨a0, b0⟩ := h0
  obtain ⟨a1, b1⟩ := h1
  obtain ⟨a2, b2⟩ := h2
  obtain ⟨a3, b3⟩ := h3
  go_enter Try.func11, Try.ntmps11
  go_wp2
  go_quiet (fail)
  go_wp2
  go_ret
  refine ⟨?_, _, rfl⟩
  simp (disch := omega) only [u32_or8, u32_or16, u32_or24]
  rfl

end Go.Proofs.Qxb6628187a
