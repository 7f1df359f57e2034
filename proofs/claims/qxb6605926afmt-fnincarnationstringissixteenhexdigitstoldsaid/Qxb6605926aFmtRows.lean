/-
  No cell of these rows narrows 'for every input' (looked for: loops, veiled, ifaces, maps, wideKeys, modest, calm, conditions, laid).
  DERIVED. THE GIVEN ROWS OF THIS SEAT. 2 by the template 'for every input the law returns true; each argument reads behind the call as it read before'; 0 by the template 'total and deterministic' (their statements: Qxb6605926aFmtTotals.lean).
  GIVEN WITH THE SEED: the statements are not yours to turn. If you find one false, say at which input.
  Laid BY PROGRAM, IN A SANDBOX (cutbox-rows.mjs): the forced cells as the released guide's own fill.sh prints them over the translation 07ff7a4bb85f99a8… (all of the seat's roots in one cut). By AI agents, Wed Nov 11 2026. No macro, syntax, notation, axiom, sorry.
-/
import Derived.Test.Qxb6605926aFmtChecked
import GoSem.Claim
import GoSem.ClaimJoined
import GoSem.ClaimMapViews
import Derived.JoinedTies
import Derived.KernelRfl
namespace Go.Proofs.Qxb6605926aFmt
/- THE CELL 'sum', in the pinned program and in every row, IS THE sha256 OF THE DUMP (.gsa) THAT Qxb6605926aFmtProg.lean LOADS. Nothing in Lean hashes anything: it is a label: what it is worth is what the hold of that sum in a sandbox is worth. -/
noncomputable def Tryf.pinned : Pinned := { name := "qxb6605926afmt", sum := "07ff7a4bb85f99a8f941ceafb99f278e096024371858c46c11b476df424ce1db", checked := Tryf.checked }
namespace Rows
def none {H : Type} : Left H := { results := [], args := [] }

/-- 'zzlaws_internal_member_b1.FnIncarnationStringIsSixteenHexDigits': WHATEVER THE INPUT: true; the input reads as it did. -/
def fnIncarnationStringIsSixteenHexDigitsSpec : ChangeSpec := { name := "fnIncarnationStringIsSixteenHexDigits", fn := fun _ => fun
  | [d] => { results := [.lit (.bool true)], args := [d] }
  | _ => none }
def fnIncarnationStringIsSixteenHexDigitsRow : OpenClaim := { program := "qxb6605926afmt", sum := "07ff7a4bb85f99a8f941ceafb99f278e096024371858c46c11b476df424ce1db", func := "example.com/quorate/quorate/zzlaws_internal_member_b1.FnIncarnationStringIsSixteenHexDigits", spec := "fnIncarnationStringIsSixteenHexDigits", stops := ["fmt.Sprintf"], inPlace := ["fmt.Sprintf"], apart := false }
/-- NO THEOREM (fmt's text is open here; it may be false): for the released tool's asking of the row's closed facts alone. THE STATEMENT IS 'FnIncarnationStringIsSixteenHexDigitsToldSaid' (Qxb6605926aFmtCards.lean). -/
def FnIncarnationStringIsSixteenHexDigitsFormAsk : Prop := fnIncarnationStringIsSixteenHexDigitsRow.holds Tryf.pinned (OpenSpec.ofChange fnIncarnationStringIsSixteenHexDigitsSpec)

/-- ITS FALSE NEIGHBOUR: 'it returns false'. Refute it at one input. -/
def fnIncarnationStringIsSixteenHexDigitsWrong : ChangeSpec := { name := "fnIncarnationStringIsSixteenHexDigits", fn := fun _ => fun
  | [d] => { results := [.lit (.bool false)], args := [d] }
  | _ => none }
def FnIncarnationStringIsSixteenHexDigitsWrongFormAsk : Prop := fnIncarnationStringIsSixteenHexDigitsRow.holds Tryf.pinned (OpenSpec.ofChange fnIncarnationStringIsSixteenHexDigitsWrong)

/-- 'zzlaws_internal_member_b1.FnIncarnationStringKeepsOrder': WHATEVER THE INPUT: true; the input reads as it did. -/
def fnIncarnationStringKeepsOrderSpec : ChangeSpec := { name := "fnIncarnationStringKeepsOrder", fn := fun _ => fun
  | [d1, d2] => { results := [.lit (.bool true)], args := [d1, d2] }
  | _ => none }
def fnIncarnationStringKeepsOrderRow : OpenClaim := { program := "qxb6605926afmt", sum := "07ff7a4bb85f99a8f941ceafb99f278e096024371858c46c11b476df424ce1db", func := "example.com/quorate/quorate/zzlaws_internal_member_b1.FnIncarnationStringKeepsOrder", spec := "fnIncarnationStringKeepsOrder", stops := ["fmt.Sprintf"], inPlace := ["fmt.Sprintf"], apart := false }
/-- NO THEOREM (fmt's text is open here; it may be false): for the released tool's asking of the row's closed facts alone. THE STATEMENT IS 'FnIncarnationStringKeepsOrderToldSaid' (Qxb6605926aFmtCards.lean). -/
def FnIncarnationStringKeepsOrderFormAsk : Prop := fnIncarnationStringKeepsOrderRow.holds Tryf.pinned (OpenSpec.ofChange fnIncarnationStringKeepsOrderSpec)

/-- ITS FALSE NEIGHBOUR: 'it returns false'. Refute it at one input. -/
def fnIncarnationStringKeepsOrderWrong : ChangeSpec := { name := "fnIncarnationStringKeepsOrder", fn := fun _ => fun
  | [d1, d2] => { results := [.lit (.bool false)], args := [d1, d2] }
  | _ => none }
def FnIncarnationStringKeepsOrderWrongFormAsk : Prop := fnIncarnationStringKeepsOrderRow.holds Tryf.pinned (OpenSpec.ofChange fnIncarnationStringKeepsOrderWrong)

end Rows
end Go.Proofs.Qxb6605926aFmt
