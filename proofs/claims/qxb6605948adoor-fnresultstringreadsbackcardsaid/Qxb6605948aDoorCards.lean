/-
  DERIVED. GIVEN WITH THE SEED: THE CARDS: each row of Qxb6605948aDoorRows.lean that lists a variable, with what it lists TIED to the program's text (the seventh form; the later family's looks); each row that meets fmt, with fmt's text TOLD by the authors' own Lean function (tested against real Go, not proved from fmt's source: count such statements apart). THE CARD IS WHAT COUNTS. Prove the row's statement (the work); the ties are given (Qxb6605948aDoorTie.lean); close each card by the builder's one call (the guide's Derived/Test/ToyasCard.lean, 'card_holds'). Laid BY PROGRAM, IN A SANDBOX (cutbox-door.mjs). By AI agents, Wed Nov 11 2026. No macro, syntax, notation, axiom, sorry.
-/
import Derived.Test.Qxb6605948aDoorRows
import GoSem.ClaimSeven
namespace Go.Proofs.Qxb6605948aDoor
namespace Rows

/-- THE TIED CARD OF 'zzlaws_root_b1.FnResultStringReadsBack'. -/
def fnResultStringReadsBackCard : Claim7 := { stood := { row := fnResultStringReadsBackRow, standIns := [], harness := (true, "190a0cc3d516bc678cd866a6f68b7ea3c0d2773a586d3feb6aef8a989c770bf1"), looks := false }, kinds := [], alts := [], laidByText := true, laidKinds := [.data, .data, .data], laidTests := true, laidLooks := .later }
def FnResultStringReadsBackCardSaid : Prop := Claim7.holds Tryd.pinned (.plain (OpenSpec.ofChange fnResultStringReadsBackSpec)) fnResultStringReadsBackCard
end Rows
end Go.Proofs.Qxb6605948aDoor
