/-
  No cell of these rows narrows 'for every input' (looked for: loops, veiled, ifaces, maps, wideKeys, modest, calm, conditions, laid).
  DERIVED. THE GIVEN ROWS OF THIS SEAT. 2 by the template 'for every input the law returns true; each argument reads behind the call as it read before'; 0 by the template 'total and deterministic' (their statements: Qxb6628306aTotals.lean).
  GIVEN WITH THE SEED: the statements are not yours to turn. If you find one false, say at which input.
  Laid BY PROGRAM, IN A SANDBOX (cutbox-rows.mjs): the forced cells as the released guide's own fill.sh prints them over the translation f43796985e33ae8d… (all of the seat's roots in one cut). By AI agents, Wed Nov 11 2026. No macro, syntax, notation, axiom, sorry.
-/
import Derived.Test.Qxb6628306aChecked
import GoSem.Claim
import GoSem.ClaimJoined
import GoSem.ClaimMapViews
import Derived.JoinedTies
import Derived.KernelRfl
namespace Go.Proofs.Qxb6628306a
/- THE CELL 'sum', in the pinned program and in every row, IS THE sha256 OF THE DUMP (.gsa) THAT Qxb6628306aProg.lean LOADS. Nothing in Lean hashes anything: it is a label: what it is worth is what the hold of that sum in a sandbox is worth. -/
noncomputable def Try.pinned : Pinned := { name := "qxb6628306a", sum := "f43796985e33ae8d52d7902848cf985b132e62fce7909909f12baebcb34b14d4", checked := Try.checked }
namespace Rows
def none {H : Type} : Left H := { results := [], args := [] }

/-- 'zzlaws_internal_site_b1.FnVictimRotationAndFirstWrite': WHATEVER THE INPUT: true; the input reads as it did. -/
def fnVictimRotationAndFirstWriteSpec : ChangeSpec := { name := "fnVictimRotationAndFirstWrite", fn := fun _ => fun
  | [d1, d2, d3] => { results := [.lit (.bool true)], args := [d1, d2, d3] }
  | _ => none }
def fnVictimRotationAndFirstWriteRow : OpenClaim := { program := "qxb6628306a", sum := "f43796985e33ae8d52d7902848cf985b132e62fce7909909f12baebcb34b14d4", func := "example.com/stampwright/stampwright/zzlaws_internal_site_b1.FnVictimRotationAndFirstWrite", spec := "fnVictimRotationAndFirstWrite", apart := false }
def FnVictimRotationAndFirstWriteSaid : Prop := fnVictimRotationAndFirstWriteRow.holds Try.pinned (OpenSpec.ofChange fnVictimRotationAndFirstWriteSpec)

/-- ITS FALSE NEIGHBOUR: 'it returns false'. Refute it at one input. -/
def fnVictimRotationAndFirstWriteWrong : ChangeSpec := { name := "fnVictimRotationAndFirstWrite", fn := fun _ => fun
  | [d1, d2, d3] => { results := [.lit (.bool false)], args := [d1, d2, d3] }
  | _ => none }
def FnVictimRotationAndFirstWriteWrongFalsely : Prop := fnVictimRotationAndFirstWriteRow.holds Try.pinned (OpenSpec.ofChange fnVictimRotationAndFirstWriteWrong)

/-- 'zzlaws_internal_site_b1.FnVictimOneMoreWrite': WHATEVER THE INPUT: true; the input reads as it did. -/
def fnVictimOneMoreWriteSpec : ChangeSpec := { name := "fnVictimOneMoreWrite", fn := fun _ => fun
  | [d1, d2, d3] => { results := [.lit (.bool true)], args := [d1, d2, d3] }
  | _ => none }
def fnVictimOneMoreWriteRow : OpenClaim := { program := "qxb6628306a", sum := "f43796985e33ae8d52d7902848cf985b132e62fce7909909f12baebcb34b14d4", func := "example.com/stampwright/stampwright/zzlaws_internal_site_b1.FnVictimOneMoreWrite", spec := "fnVictimOneMoreWrite", apart := false }
def FnVictimOneMoreWriteSaid : Prop := fnVictimOneMoreWriteRow.holds Try.pinned (OpenSpec.ofChange fnVictimOneMoreWriteSpec)

/-- ITS FALSE NEIGHBOUR: 'it returns false'. Refute it at one input. -/
def fnVictimOneMoreWriteWrong : ChangeSpec := { name := "fnVictimOneMoreWrite", fn := fun _ => fun
  | [d1, d2, d3] => { results := [.lit (.bool false)], args := [d1, d2, d3] }
  | _ => none }
def FnVictimOneMoreWriteWrongFalsely : Prop := fnVictimOneMoreWriteRow.holds Try.pinned (OpenSpec.ofChange fnVictimOneMoreWriteWrong)

end Rows
end Go.Proofs.Qxb6628306a
