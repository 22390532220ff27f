/-
  No cell of these rows narrows 'for every input' (looked for: loops, veiled, ifaces, maps, wideKeys, modest, calm, conditions, laid).
  DERIVED. THE GIVEN ROWS OF THIS SEAT. 1 by the template 'for every input the law returns true; each argument reads behind the call as it read before'; 0 by the template 'total and deterministic' (their statements: Qxb6628187aTotals.lean).
  GIVEN WITH THE SEED: the statements are not yours to turn. If you find one false, say at which input.
  Laid BY PROGRAM, IN A SANDBOX (cutbox-rows.mjs): the forced cells as the released guide's own fill.sh prints them over the translation 33e36cb22039af45… (all of the seat's roots in one cut). By AI agents, Wed Nov 11 2026. No macro, syntax, notation, axiom, sorry.
-/
import Derived.Test.Qxb6628187aChecked
import GoSem.Claim
import GoSem.ClaimJoined
import GoSem.ClaimMapViews
import Derived.JoinedTies
import Derived.KernelRfl
namespace Go.Proofs.Qxb6628187a
/- THE CELL 'sum', in the pinned program and in every row, IS THE sha256 OF THE DUMP (.gsa) THAT Qxb6628187aProg.lean LOADS. Nothing in Lean hashes anything: it is a label: what it is worth is what the hold of that sum in a sandbox is worth. -/
noncomputable def Try.pinned : Pinned := { name := "qxb6628187a", sum := "33e36cb22039af456d2aef077f8308a523ed44e238000b8f25e230438109e8db", checked := Try.checked }
namespace Rows
def none {H : Type} : Left H := { results := [], args := [] }

/-- 'zzlaws_internal_ndr_b1.FnPointerAgreesWithUint32': WHATEVER THE INPUT: true; the input reads as it did. -/
def fnPointerAgreesWithUint32Spec : ChangeSpec := { name := "fnPointerAgreesWithUint32", fn := fun _ => fun
  | [d1, d2, d3] => { results := [.lit (.bool true)], args := [d1, d2, d3] }
  | _ => none }
def fnPointerAgreesWithUint32Row : OpenClaim := { program := "qxb6628187a", sum := "33e36cb22039af456d2aef077f8308a523ed44e238000b8f25e230438109e8db", func := "example.com/shadowshare/shadowshare/zzlaws_internal_ndr_b1.FnPointerAgreesWithUint32", spec := "fnPointerAgreesWithUint32", named := ["encoding/binary.LittleEndian"], apart := false }
def FnPointerAgreesWithUint32Said : Prop := fnPointerAgreesWithUint32Row.holds Try.pinned (OpenSpec.ofChange fnPointerAgreesWithUint32Spec)

/-- ITS FALSE NEIGHBOUR: 'it returns false'. Refute it at one input. -/
def fnPointerAgreesWithUint32Wrong : ChangeSpec := { name := "fnPointerAgreesWithUint32", fn := fun _ => fun
  | [d1, d2, d3] => { results := [.lit (.bool false)], args := [d1, d2, d3] }
  | _ => none }
def FnPointerAgreesWithUint32WrongFalsely : Prop := fnPointerAgreesWithUint32Row.holds Try.pinned (OpenSpec.ofChange fnPointerAgreesWithUint32Wrong)

end Rows
end Go.Proofs.Qxb6628187a
