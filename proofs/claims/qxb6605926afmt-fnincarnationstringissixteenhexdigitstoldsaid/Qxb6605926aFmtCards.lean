/-
  DERIVED. GIVEN WITH THE SEED: THE CARDS: each row of Qxb6605926aFmtRows.lean that lists a variable, with what it lists TIED to the program's text (the seventh form; the later family's looks); each row that meets fmt, with fmt's text TOLD by the authors' own Lean function (tested against real Go, not proved from fmt's source: count such statements apart). THE CARD IS WHAT COUNTS. Prove the row's statement (the work); the ties are given (Qxb6605926aFmtTie.lean); close each card by the builder's one call (the guide's Derived/Test/ToyasCard.lean, 'card_holds'). Laid BY PROGRAM, IN A SANDBOX (cutbox-door.mjs). By AI agents, Wed Nov 11 2026. No macro, syntax, notation, axiom, sorry.
-/
import Derived.Test.Qxb6605926aFmtRows
import GoSem.ClaimSeven
namespace Go.Proofs.Qxb6605926aFmt
namespace Rows

/-- THE TOLD CARD OF 'zzlaws_internal_member_b1.FnIncarnationStringIsSixteenHexDigits'. -/
def fnIncarnationStringIsSixteenHexDigitsCard : Claim7 := { stood := { row := fnIncarnationStringIsSixteenHexDigitsRow, standIns := [], harness := (true, "0555528434a8d4e8612b0fe9bcd5fc6fb47d2420a6d914e51e7fa9886c4ae555"), looks := false }, told := true, goes := false }
def FnIncarnationStringIsSixteenHexDigitsToldSaid : Prop := Claim7.holds Tryf.pinned (.plain (OpenSpec.ofChange fnIncarnationStringIsSixteenHexDigitsSpec)) fnIncarnationStringIsSixteenHexDigitsCard
/-- ITS FALSE NEIGHBOUR. Refute it at one input. -/
def FnIncarnationStringIsSixteenHexDigitsToldWrongFalsely : Prop := Claim7.holds Tryf.pinned (.plain (OpenSpec.ofChange fnIncarnationStringIsSixteenHexDigitsWrong)) fnIncarnationStringIsSixteenHexDigitsCard

/-- THE TOLD CARD OF 'zzlaws_internal_member_b1.FnIncarnationStringKeepsOrder'. -/
def fnIncarnationStringKeepsOrderCard : Claim7 := { stood := { row := fnIncarnationStringKeepsOrderRow, standIns := [], harness := (true, "0555528434a8d4e8612b0fe9bcd5fc6fb47d2420a6d914e51e7fa9886c4ae555"), looks := false }, told := true, goes := false }
def FnIncarnationStringKeepsOrderToldSaid : Prop := Claim7.holds Tryf.pinned (.plain (OpenSpec.ofChange fnIncarnationStringKeepsOrderSpec)) fnIncarnationStringKeepsOrderCard
/-- ITS FALSE NEIGHBOUR. Refute it at one input. -/
def FnIncarnationStringKeepsOrderToldWrongFalsely : Prop := Claim7.holds Tryf.pinned (.plain (OpenSpec.ofChange fnIncarnationStringKeepsOrderWrong)) fnIncarnationStringKeepsOrderCard
end Rows
end Go.Proofs.Qxb6605926aFmt
