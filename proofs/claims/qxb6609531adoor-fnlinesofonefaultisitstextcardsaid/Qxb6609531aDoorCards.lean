/-
  DERIVED. GIVEN WITH THE SEED: THE CARDS: each row of Qxb6609531aDoorRows.lean that lists a variable, with what it lists TIED to the program's text (the seventh form; the later family's looks); each row that meets fmt, with fmt's text TOLD by the authors' own Lean function (tested against real Go, not proved from fmt's source: count such statements apart). THE CARD IS WHAT COUNTS. Prove the row's statement (the work); the ties are given (Qxb6609531aDoorTie.lean); close each card by the builder's one call (the guide's Derived/Test/ToyasCard.lean, 'card_holds'). Laid BY PROGRAM, IN A SANDBOX (cutbox-door.mjs). By AI agents, Wed Nov 11 2026. No macro, syntax, notation, axiom, sorry.
-/
import Derived.Test.Qxb6609531aDoorRows
import GoSem.ClaimSeven
namespace Go.Proofs.Qxb6609531aDoor
namespace Rows

/-- THE TIED CARD OF 'zzlaws_internal_document_b1.FnLinesOfOneFaultIsItsText'. -/
def fnLinesOfOneFaultIsItsTextCard : Claim7 := { stood := { row := fnLinesOfOneFaultIsItsTextRow, standIns := [], harness := (true, "a6a8f5428a62fba429374c92a31d1dc135dc6548a2986fb92a0e39a735e7fba8"), looks := true }, kinds := [], alts := [], laidByText := true, laidKinds := [.handle], laidTests := true, laidLooks := .later }
def FnLinesOfOneFaultIsItsTextCardSaid : Prop := Claim7.holds Tryd.pinned (.plain (OpenSpec.ofChange fnLinesOfOneFaultIsItsTextSpec)) fnLinesOfOneFaultIsItsTextCard
end Rows
end Go.Proofs.Qxb6609531aDoor
