/- How a slice of floats, a slice of uint64s that came in is opened. -/
import Derived.Test.Qxb6628331aRows
import Derived.WalkKit
import Derived.ProofKit
import Derived.OpenShut
import Derived.ChangeOld
import Derived.Below
import Derived.Laws.Cover2
import Derived.Deep.Slices
namespace Go.Proofs.Qxb6628331a
open Go.ChangeShapes Go.WideShapes Go.ChangeAt Go.RowKit

/-- A slice of floats that came in: nil, or a row of cap floats. -/
def IsFRow (w : World) (a : Option Addr) (len cap : Nat) (f : Nat → Nat) : Prop :=
  (a = none ∧ len = 0 ∧ cap = 0) ∨
  ∃ x, a = some x ∧ len ≤ cap ∧ cap ≤ maxLen ∧ (∀ i, i < cap → w.cell? (x.add i) = some (.float .f64 (f i)))

/-- A slice of uint64s that came in. -/
def IsURow (w : World) (a : Option Addr) (len cap : Nat) (f : Nat → Int) : Prop :=
  (a = none ∧ len = 0 ∧ cap = 0) ∨
  ∃ x, a = some x ∧ len ≤ cap ∧ cap ≤ maxLen ∧ (∀ i, i < cap → w.cell? (x.add i) = some (.int .u64 (f i)))

section
variable {H : Type} {enc : TypeId × Value → H} {P : Program} {w : World} {base : Nat} {spare : Nat → Bool} {held : Bool}

theorem trod_float {t : TypeId} {k : FloatKind} {fuel : Nat} {cs : List Value} {x : DataW H × List MemPlace} (ht : P.underlying t = some (.float k)) (h : DataW.trod enc P w base spare held fuel t cs = some x) : ∃ b, cs = [.float k b] := by
  cases fuel with
  | zero => simp [DataW.trod] at h
  | succ n =>
    unfold DataW.trod at h
    rw [ht] at h
    split at h <;> simp_all
end

theorem open_floats {H : Type} {enc : TypeId × Value → H} {W : World} {a : Option Addr} {len cap : Nat} {d : DataW H} {p : List MemPlace} (h : DataW.Trod enc Try.prog W 0 (fun _ => true) true 22 (.slice a len cap) d p) : ∃ f, IsFRow W a len cap f := by
  obtain ⟨fuel, hf⟩ := h
  rcases Go.Deep.open_slice1 Try.underlying22 (by kernel_rfl) hf with ⟨hcs, _⟩ | ⟨x, l, c, m, n, V, D, Pl, hcs, _, hl, hm, hmm, _, hx⟩
  · simp [Value.cells] at hcs
    obtain ⟨rfl, rfl, rfl⟩ := hcs
    exact ⟨fun _ => 0, .inl ⟨rfl, rfl, rfl⟩⟩
  · simp [Value.cells] at hcs
    obtain ⟨rfl, rfl, rfl⟩ := hcs
    simp only [if_true] at hmm
    subst hmm
    obtain ⟨F, hF⟩ := Go.Deep.choose_lt (α := Nat) (p := fun i b => V i = .float .f64 b) (fun i hi => by
      obtain ⟨b, h1⟩ := trod_float Try.underlying25 (hx i hi).2
      exact ⟨b, by simpa using h1⟩)
    exact ⟨F, .inr ⟨_, rfl, hl, hm, fun i hi => by rw [(hx i hi).1, hF i hi]⟩⟩

theorem open_uints {H : Type} {enc : TypeId × Value → H} {W : World} {a : Option Addr} {len cap : Nat} {d : DataW H} {p : List MemPlace} (h : DataW.Trod enc Try.prog W 0 (fun _ => true) true 23 (.slice a len cap) d p) : ∃ f, IsURow W a len cap f := by
  obtain ⟨fuel, hf⟩ := h
  rcases Go.Deep.open_slice1 Try.underlying23 (by kernel_rfl) hf with ⟨hcs, _⟩ | ⟨x, l, c, m, n, V, D, Pl, hcs, _, hl, hm, hmm, _, hx⟩
  · simp [Value.cells] at hcs
    obtain ⟨rfl, rfl, rfl⟩ := hcs
    exact ⟨fun _ => 0, .inl ⟨rfl, rfl, rfl⟩⟩
  · simp [Value.cells] at hcs
    obtain ⟨rfl, rfl, rfl⟩ := hcs
    simp only [if_true] at hmm
    subst hmm
    obtain ⟨F, hF⟩ := Go.Deep.choose_lt (α := Int) (p := fun i b => V i = .int .u64 b) (fun i hi => by
      obtain ⟨b, h1, _⟩ := DataW.trod_int Try.underlying24 (hx i hi).2
      exact ⟨b, by simpa using h1⟩)
    exact ⟨F, .inr ⟨_, rfl, hl, hm, fun i hi => by rw [(hx i hi).1, hF i hi]⟩⟩

end Go.Proofs.Qxb6628331a
