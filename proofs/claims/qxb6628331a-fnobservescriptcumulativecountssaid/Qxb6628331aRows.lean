/-
  No cell of these rows narrows 'for every input' (looked for: loops, veiled, ifaces, maps, wideKeys, modest, calm, conditions, laid).
  DERIVED. THE GIVEN ROWS OF THIS SEAT. 2 by the template 'for every input the law returns true; each argument reads behind the call as it read before'; 0 by the template 'total and deterministic' (their statements: Qxb6628331aTotals.lean).
  GIVEN WITH THE SEED: the statements are not yours to turn. If you find one false, say at which input.
  Laid BY PROGRAM, IN A SANDBOX (cutbox-rows.mjs): the forced cells as the released guide's own fill.sh prints them over the translation c7b6207addc0d3ea… (all of the seat's roots in one cut). By AI agents, Wed Nov 11 2026. No macro, syntax, notation, axiom, sorry.
-/
import Derived.Test.Qxb6628331aChecked
import GoSem.Claim
import GoSem.ClaimJoined
import GoSem.ClaimMapViews
import Derived.JoinedTies
import Derived.KernelRfl
namespace Go.Proofs.Qxb6628331a
/- THE CELL 'sum', in the pinned program and in every row, IS THE sha256 OF THE DUMP (.gsa) THAT Qxb6628331aProg.lean LOADS. Nothing in Lean hashes anything: it is a label: what it is worth is what the hold of that sum in a sandbox is worth. -/
noncomputable def Try.pinned : Pinned := { name := "qxb6628331a", sum := "c7b6207addc0d3ea66f1db53b0760da4eb22f6e69e5321a3248b4f0319ca0cae", checked := Try.checked }
namespace Rows
def none {H : Type} : Left H := { results := [], args := [] }

/-- 'zzlaws_internal_metrics_b1.FnObserveCountsItsBucketAndAddsToSum': WHATEVER THE INPUT: true; the input reads as it did. -/
def fnObserveCountsItsBucketAndAddsToSumSpec : ChangeSpec := { name := "fnObserveCountsItsBucketAndAddsToSum", fn := fun _ => fun
  | [d1, d2, d3, d4] => { results := [.lit (.bool true)], args := [d1, d2, d3, d4] }
  | _ => none }
def fnObserveCountsItsBucketAndAddsToSumRow : OpenClaim := { program := "qxb6628331a", sum := "c7b6207addc0d3ea66f1db53b0760da4eb22f6e69e5321a3248b4f0319ca0cae", func := "example.com/tidemark/tidemark/zzlaws_internal_metrics_b1.FnObserveCountsItsBucketAndAddsToSum", spec := "fnObserveCountsItsBucketAndAddsToSum", inPlace := ["sync/atomic.StoreUint64", "sync/atomic.AddUint64", "sync/atomic.LoadUint64", "math.Float64frombits", "math.Float64bits", "sync/atomic.CompareAndSwapUint64"], unfollowed := true, recurses := true, apart := false }
def FnObserveCountsItsBucketAndAddsToSumSaid : Prop := fnObserveCountsItsBucketAndAddsToSumRow.holds Try.pinned (OpenSpec.ofChange fnObserveCountsItsBucketAndAddsToSumSpec)

/-- ITS FALSE NEIGHBOUR: 'it returns false'. Refute it at one input. -/
def fnObserveCountsItsBucketAndAddsToSumWrong : ChangeSpec := { name := "fnObserveCountsItsBucketAndAddsToSum", fn := fun _ => fun
  | [d1, d2, d3, d4] => { results := [.lit (.bool false)], args := [d1, d2, d3, d4] }
  | _ => none }
def FnObserveCountsItsBucketAndAddsToSumWrongFalsely : Prop := fnObserveCountsItsBucketAndAddsToSumRow.holds Try.pinned (OpenSpec.ofChange fnObserveCountsItsBucketAndAddsToSumWrong)

/-- 'zzlaws_internal_metrics_b1.FnObserveScriptCumulativeCounts': WHATEVER THE INPUT: true; the input reads as it did. -/
def fnObserveScriptCumulativeCountsSpec : ChangeSpec := { name := "fnObserveScriptCumulativeCounts", fn := fun _ => fun
  | [d1, d2] => { results := [.lit (.bool true)], args := [d1, d2] }
  | _ => none }
def fnObserveScriptCumulativeCountsRow : OpenClaim := { program := "qxb6628331a", sum := "c7b6207addc0d3ea66f1db53b0760da4eb22f6e69e5321a3248b4f0319ca0cae", func := "example.com/tidemark/tidemark/zzlaws_internal_metrics_b1.FnObserveScriptCumulativeCounts", spec := "fnObserveScriptCumulativeCounts", inPlace := ["sync/atomic.StoreUint64", "sync/atomic.AddUint64", "sync/atomic.LoadUint64", "math.Float64frombits", "math.Float64bits", "sync/atomic.CompareAndSwapUint64"], unfollowed := true, recurses := true, apart := false }
def FnObserveScriptCumulativeCountsSaid : Prop := fnObserveScriptCumulativeCountsRow.holds Try.pinned (OpenSpec.ofChange fnObserveScriptCumulativeCountsSpec)

/-- ITS FALSE NEIGHBOUR: 'it returns false'. Refute it at one input. -/
def fnObserveScriptCumulativeCountsWrong : ChangeSpec := { name := "fnObserveScriptCumulativeCounts", fn := fun _ => fun
  | [d1, d2] => { results := [.lit (.bool false)], args := [d1, d2] }
  | _ => none }
def FnObserveScriptCumulativeCountsWrongFalsely : Prop := fnObserveScriptCumulativeCountsRow.holds Try.pinned (OpenSpec.ofChange fnObserveScriptCumulativeCountsWrong)

end Rows
end Go.Proofs.Qxb6628331a
