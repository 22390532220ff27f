/-
  No cell of these rows narrows 'for every input' (looked for: loops, veiled, ifaces, maps, wideKeys, modest, calm, conditions, laid).
  DERIVED. THE GIVEN ROWS OF THIS SEAT. 1 by the template 'for every input the law returns true; each argument reads behind the call as it read before'; 0 by the template 'total and deterministic' (their statements: Qxb6628327aTotals.lean).
  GIVEN WITH THE SEED: the statements are not yours to turn. If you find one false, say at which input.
  Laid BY PROGRAM, IN A SANDBOX (cutbox-rows.mjs): the forced cells as the released guide's own fill.sh prints them over the translation c38be9a30f52a4cb… (all of the seat's roots in one cut). By AI agents, Wed Nov 11 2026. No macro, syntax, notation, axiom, sorry.
-/
import Derived.Test.Qxb6628327aChecked
import GoSem.Claim
import GoSem.ClaimJoined
import GoSem.ClaimMapViews
import Derived.JoinedTies
import Derived.KernelRfl
namespace Go.Proofs.Qxb6628327a
/- THE CELL 'sum', in the pinned program and in every row, IS THE sha256 OF THE DUMP (.gsa) THAT Qxb6628327aProg.lean LOADS. Nothing in Lean hashes anything: it is a label: what it is worth is what the hold of that sum in a sandbox is worth. -/
noncomputable def Try.pinned : Pinned := { name := "qxb6628327a", sum := "c38be9a30f52a4cbf97121499f2044d9608a81d83d00e4e9c5a6e65996ce888f", checked := Try.checked }
namespace Rows
def none {H : Type} : Left H := { results := [], args := [] }

/-- 'zzlaws_internal_xpathsyntax_b1.FnStartsStepThreeKindsPlusAbbreviation': WHATEVER THE INPUT: true; the input reads as it did. -/
def fnStartsStepThreeKindsPlusAbbreviationSpec : ChangeSpec := { name := "fnStartsStepThreeKindsPlusAbbreviation", fn := fun _ => fun
  | [d1, d2, d3, d4, d5, d6, d7, d8] => { results := [.lit (.bool true)], args := [d1, d2, d3, d4, d5, d6, d7, d8] }
  | _ => none }
def fnStartsStepThreeKindsPlusAbbreviationRow : OpenClaim := { program := "qxb6628327a", sum := "c38be9a30f52a4cbf97121499f2044d9608a81d83d00e4e9c5a6e65996ce888f", func := "example.com/portunus/portunus/zzlaws_internal_xpathsyntax_b1.FnStartsStepThreeKindsPlusAbbreviation", spec := "fnStartsStepThreeKindsPlusAbbreviation", apart := false }
def FnStartsStepThreeKindsPlusAbbreviationSaid : Prop := fnStartsStepThreeKindsPlusAbbreviationRow.holds Try.pinned (OpenSpec.ofChange fnStartsStepThreeKindsPlusAbbreviationSpec)

/-- ITS FALSE NEIGHBOUR: 'it returns false'. Refute it at one input. -/
def fnStartsStepThreeKindsPlusAbbreviationWrong : ChangeSpec := { name := "fnStartsStepThreeKindsPlusAbbreviation", fn := fun _ => fun
  | [d1, d2, d3, d4, d5, d6, d7, d8] => { results := [.lit (.bool false)], args := [d1, d2, d3, d4, d5, d6, d7, d8] }
  | _ => none }
def FnStartsStepThreeKindsPlusAbbreviationWrongFalsely : Prop := fnStartsStepThreeKindsPlusAbbreviationRow.holds Try.pinned (OpenSpec.ofChange fnStartsStepThreeKindsPlusAbbreviationWrong)

end Rows
end Go.Proofs.Qxb6628327a
