/- sync/atomic's Uint64, math's bits: the contracts. -/
import Derived.Test.Qxb6628331aRows
import Derived.WalkKit
import Derived.WalkSpells
import Derived.WalkLawsBesides
import Derived.Laws.LoneSync
namespace Go.Proofs.Qxb6628331a
open Go.RowKit

theorem run_store_float (P : Program) (w : World) (a : Addr) (m : Mode) (k : FloatKind) (b : Nat) : (store a (.float k b) m).run P w = stored P w a (.float k b) m := run_store P w a _ m rfl

theorem store_any (b off : Nat) (u : Value) (y : Int) (w : World) (h0 : w.cell? ⟨b, off, none⟩ = some u) (f0 : w.frozen? ⟨b, off, none⟩ = false) :
    Calls Try.prog 16 #[.pointer (some ⟨b, off, none⟩), .int .u64 y] w fun e w' => e = .returned (.tuple #[]) ∧ w' = w.setCell ⟨b, off, none⟩ (.int .u64 y) := by
  have hs := run_call_store (P := Try.prog) Try.func22 (by kernel_rfl) (by kernel_rfl) (by kernel_rfl) (by kernel_rfl) (k := .u64) (y := y) h0 f0
  go_enter Try.func16, Try.ntmps16
  go_wp2
  go_end0
  exact ⟨rfl, rfl⟩

theorem load_any (b off : Nat) (y : Int) (w : World) (h0 : w.cell? ⟨b, off, none⟩ = some (.int .u64 y)) :
    Calls Try.prog 19 #[.pointer (some ⟨b, off, none⟩)] w fun e w' => e = .returned (.int .u64 y) ∧ w' = w := by
  have hs := run_call_load (P := Try.prog) Try.func26 (by kernel_rfl) (by kernel_rfl) (by kernel_rfl) .u64 (by kernel_rfl) h0
  go_enter Try.func19, Try.ntmps19
  go_wp2
  go_ret
  exact ⟨rfl, rfl⟩

theorem add1_any (b off : Nat) (x : Int) (w : World) (h0 : w.cell? ⟨b, off, none⟩ = some (.int .u64 x)) (f0 : w.frozen? ⟨b, off, none⟩ = false) :
    Calls Try.prog 18 #[.pointer (some ⟨b, off, none⟩), .int .u64 1] w fun e w' => e = .returned (.int .u64 (IntKind.u64.wrap (x + 1))) ∧ w' = w.setCell ⟨b, off, none⟩ (.int .u64 (IntKind.u64.wrap (x + 1))) := by
  have hs := run_call_add (P := Try.prog) Try.func25 (by kernel_rfl) (by kernel_rfl) (by kernel_rfl) .u64 (by kernel_rfl) (y := 1) (s := IntKind.u64.wrap (x + 1)) h0 f0 rfl
  obtain ⟨s, es⟩ : ∃ s, IntKind.u64.wrap (x + 1) = s := ⟨_, rfl⟩
  rw [es] at hs ⊢
  clear es
  go_enter Try.func18, Try.ntmps18
  go_wp2
  go_ret
  exact ⟨rfl, rfl⟩

theorem cas_any (b off : Nat) (x y : Int) (w : World) (h0 : w.cell? ⟨b, off, none⟩ = some (.int .u64 x)) (f0 : w.frozen? ⟨b, off, none⟩ = false) :
    Calls Try.prog 20 #[.pointer (some ⟨b, off, none⟩), .int .u64 x, .int .u64 y] w fun e w' => e = .returned (.bool true) ∧ w' = w.setCell ⟨b, off, none⟩ (.int .u64 y) := by
  have hs := run_call_cas_hit (P := Try.prog) Try.func27 (by kernel_rfl) (by kernel_rfl) (by kernel_rfl) .u64 (by kernel_rfl) (y := y) h0 f0
  go_enter Try.func20, Try.ntmps20
  go_wp2
  go_ret
  exact ⟨rfl, rfl⟩

theorem frombits_run (x : Int) (w : World) : (callFunc 14 #[.int .u64 x]).run Try.prog w = .ok (.value (.float .f64 x.toNat)) w := by
  rw [run_callFunc_extern (e := Extern.MathFloatBits.float64frombits) Try.func14 (by kernel_rfl) (by kernel_rfl) (by kernel_rfl) (by kernel_rfl)]
  rfl

theorem bits_run (x : Nat) (w : World) : (callFunc 21 #[.float .f64 x]).run Try.prog w = .ok (.value (.int .u64 x)) w := by
  rw [run_callFunc_extern (e := Extern.MathFloatBits.float64bits) Try.func21 (by kernel_rfl) (by kernel_rfl) (by kernel_rfl) (by kernel_rfl)]
  rfl

end Go.Proofs.Qxb6628331a
