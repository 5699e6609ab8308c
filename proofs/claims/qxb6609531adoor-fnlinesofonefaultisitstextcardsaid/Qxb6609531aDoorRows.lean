/-
  NARROWER THAN 'FOR EVERY INPUT', by the rows' own cells (each row's printed sentence says how): FnLinesOfOneFaultIsItsText: laid.
  DERIVED. THE GIVEN ROWS OF THIS SEAT. 1 by the template 'for every input the law returns true; each argument reads behind the call as it read before'; 0 by the template 'total and deterministic' (their statements: Qxb6609531aDoorTotals.lean).
  GIVEN WITH THE SEED: the statements are not yours to turn. If you find one false, say at which input.
  Laid BY PROGRAM, IN A SANDBOX (cutbox-rows.mjs): the forced cells as the released guide's own fill.sh prints them over the translation 2d7fccdd20b92708… (all of the seat's roots in one cut). By AI agents, Wed Nov 11 2026. No macro, syntax, notation, axiom, sorry.
-/
import Derived.Test.Qxb6609531aDoorChecked
import GoSem.Claim
import GoSem.ClaimJoined
import GoSem.ClaimMapViews
import Derived.JoinedTies
import Derived.KernelRfl
namespace Go.Proofs.Qxb6609531aDoor
/- THE CELL 'sum', in the pinned program and in every row, IS THE sha256 OF THE DUMP (.gsa) THAT Qxb6609531aDoorProg.lean LOADS. Nothing in Lean hashes anything: it is a label: what it is worth is what the hold of that sum in a sandbox is worth. -/
noncomputable def Tryd.pinned : Pinned := { name := "qxb6609531adoor", sum := "2d7fccdd20b92708095e4d925b321786545990608b9ab55e01d6f33b2a2605ab", checked := Tryd.checked }
namespace Rows
def none {H : Type} : Left H := { results := [], args := [] }

/- WHAT THE LISTED PACKAGE-LEVEL VARIABLES READ AS WHEN THE CALL BEGINS. Each datum BY PROGRAM (the guide's laid-datum.mjs) off the statement by which the dump's own 'gosem.cut.vars' lays the variable. In a bare row this is a premise. The card (Qxb6609531aDoorCards.lean) ties it to the program's text. -/
def laid_errors_errorType {H : Type} : DataW H := .iface "internal/reflectlite.rtype" (.agg [.ptr (.lit (.string [101, 114, 114, 111, 114]))])

/-- 'zzlaws_internal_document_b1.FnLinesOfOneFaultIsItsText': WHATEVER THE INPUT: true; the input reads as it did. -/
def fnLinesOfOneFaultIsItsTextSpec : ChangeSpec := { name := "fnLinesOfOneFaultIsItsText", fn := fun _ => fun
  | [d1, d2] => { results := [.lit (.bool true)], args := [d1, d2] }
  | _ => none }
def fnLinesOfOneFaultIsItsTextRow : OpenClaim := { program := "qxb6609531adoor", sum := "2d7fccdd20b92708095e4d925b321786545990608b9ab55e01d6f33b2a2605ab", func := "example.com/whale-shark/whale-shark/zzlaws_internal_document_b1.FnLinesOfOneFaultIsItsText", spec := "fnLinesOfOneFaultIsItsText", inPlace := ["internal/reflectlite.ValueOf", "(internal/reflectlite.Value).Type", "(internal/reflectlite.Value).IsNil", "internal/reflectlite.TypeOf", "(internal/reflectlite.Value).Elem", "(internal/reflectlite.Value).Set"], unfollowed := true, recurses := true, named := ["errors.errorType"], apart := false, laid := [("errors.errorType", laid_errors_errorType)] }
def FnLinesOfOneFaultIsItsTextSaid : Prop := fnLinesOfOneFaultIsItsTextRow.holds Tryd.pinned (OpenSpec.ofChange fnLinesOfOneFaultIsItsTextSpec)

/-- ITS FALSE NEIGHBOUR: 'it returns false'. Refute it at one input. -/
def fnLinesOfOneFaultIsItsTextWrong : ChangeSpec := { name := "fnLinesOfOneFaultIsItsText", fn := fun _ => fun
  | [d1, d2] => { results := [.lit (.bool false)], args := [d1, d2] }
  | _ => none }
def FnLinesOfOneFaultIsItsTextWrongFalsely : Prop := fnLinesOfOneFaultIsItsTextRow.holds Tryd.pinned (OpenSpec.ofChange fnLinesOfOneFaultIsItsTextWrong)

end Rows
end Go.Proofs.Qxb6609531aDoor
