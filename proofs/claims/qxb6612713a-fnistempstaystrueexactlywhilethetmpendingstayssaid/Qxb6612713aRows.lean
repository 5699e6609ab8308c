/-
  No cell of these rows narrows 'for every input' (looked for: loops, veiled, ifaces, maps, wideKeys, modest, calm, conditions, laid).
  DERIVED. THE GIVEN ROWS OF THIS SEAT. 2 by the template 'for every input the law returns true; each argument reads behind the call as it read before'; 0 by the template 'total and deterministic' (their statements: Qxb6612713aTotals.lean).
  GIVEN WITH THE SEED: the statements are not yours to turn. If you find one false, say at which input.
  Laid BY PROGRAM, IN A SANDBOX (cutbox-rows.mjs): the forced cells as the released guide's own fill.sh prints them over the translation a81013845966156f… (all of the seat's roots in one cut). By AI agents, Wed Nov 11 2026. No macro, syntax, notation, axiom, sorry.
-/
import Derived.Test.Qxb6612713aChecked
import GoSem.Claim
import GoSem.ClaimJoined
import GoSem.ClaimMapViews
import Derived.JoinedTies
import Derived.KernelRfl
namespace Go.Proofs.Qxb6612713a
/- THE CELL 'sum', in the pinned program and in every row, IS THE sha256 OF THE DUMP (.gsa) THAT Qxb6612713aProg.lean LOADS. Nothing in Lean hashes anything: it is a label: what it is worth is what the hold of that sum in a sandbox is worth. -/
noncomputable def Try.pinned : Pinned := { name := "qxb6612713a", sum := "a81013845966156fc97f9c5399f175b391d0d2d16719a3e7a4da0818ff620385", checked := Try.checked }
namespace Rows
def none {H : Type} : Left H := { results := [], args := [] }

/-- 'zzlaws_internal_keyrepo_b1.FnIsTempTellsItsNameFromEveryOtherOfTheSameLength': WHATEVER THE INPUT: true; the input reads as it did. -/
def fnIsTempTellsItsNameFromEveryOtherOfTheSameLengthSpec : ChangeSpec := { name := "fnIsTempTellsItsNameFromEveryOtherOfTheSameLength", fn := fun _ => fun
  | [d1, d2, d3] => { results := [.lit (.bool true)], args := [d1, d2, d3] }
  | _ => none }
def fnIsTempTellsItsNameFromEveryOtherOfTheSameLengthRow : OpenClaim := { program := "qxb6612713a", sum := "a81013845966156fc97f9c5399f175b391d0d2d16719a3e7a4da0818ff620385", func := "example.com/sealbearer/sealbearer/zzlaws_internal_keyrepo_b1.FnIsTempTellsItsNameFromEveryOtherOfTheSameLength", spec := "fnIsTempTellsItsNameFromEveryOtherOfTheSameLength", apart := false }
def FnIsTempTellsItsNameFromEveryOtherOfTheSameLengthSaid : Prop := fnIsTempTellsItsNameFromEveryOtherOfTheSameLengthRow.holds Try.pinned (OpenSpec.ofChange fnIsTempTellsItsNameFromEveryOtherOfTheSameLengthSpec)

/-- ITS FALSE NEIGHBOUR: 'it returns false'. Refute it at one input. -/
def fnIsTempTellsItsNameFromEveryOtherOfTheSameLengthWrong : ChangeSpec := { name := "fnIsTempTellsItsNameFromEveryOtherOfTheSameLength", fn := fun _ => fun
  | [d1, d2, d3] => { results := [.lit (.bool false)], args := [d1, d2, d3] }
  | _ => none }
def FnIsTempTellsItsNameFromEveryOtherOfTheSameLengthWrongFalsely : Prop := fnIsTempTellsItsNameFromEveryOtherOfTheSameLengthRow.holds Try.pinned (OpenSpec.ofChange fnIsTempTellsItsNameFromEveryOtherOfTheSameLengthWrong)

/-- 'zzlaws_internal_keyrepo_b1.FnIsTempStaysTrueExactlyWhileTheTmpEndingStays': WHATEVER THE INPUT: true; the input reads as it did. -/
def fnIsTempStaysTrueExactlyWhileTheTmpEndingStaysSpec : ChangeSpec := { name := "fnIsTempStaysTrueExactlyWhileTheTmpEndingStays", fn := fun _ => fun
  | [d1, d2, d3] => { results := [.lit (.bool true)], args := [d1, d2, d3] }
  | _ => none }
def fnIsTempStaysTrueExactlyWhileTheTmpEndingStaysRow : OpenClaim := { program := "qxb6612713a", sum := "a81013845966156fc97f9c5399f175b391d0d2d16719a3e7a4da0818ff620385", func := "example.com/sealbearer/sealbearer/zzlaws_internal_keyrepo_b1.FnIsTempStaysTrueExactlyWhileTheTmpEndingStays", spec := "fnIsTempStaysTrueExactlyWhileTheTmpEndingStays", apart := false }
def FnIsTempStaysTrueExactlyWhileTheTmpEndingStaysSaid : Prop := fnIsTempStaysTrueExactlyWhileTheTmpEndingStaysRow.holds Try.pinned (OpenSpec.ofChange fnIsTempStaysTrueExactlyWhileTheTmpEndingStaysSpec)

/-- ITS FALSE NEIGHBOUR: 'it returns false'. Refute it at one input. -/
def fnIsTempStaysTrueExactlyWhileTheTmpEndingStaysWrong : ChangeSpec := { name := "fnIsTempStaysTrueExactlyWhileTheTmpEndingStays", fn := fun _ => fun
  | [d1, d2, d3] => { results := [.lit (.bool false)], args := [d1, d2, d3] }
  | _ => none }
def FnIsTempStaysTrueExactlyWhileTheTmpEndingStaysWrongFalsely : Prop := fnIsTempStaysTrueExactlyWhileTheTmpEndingStaysRow.holds Try.pinned (OpenSpec.ofChange fnIsTempStaysTrueExactlyWhileTheTmpEndingStaysWrong)

end Rows
end Go.Proofs.Qxb6612713a
