/-
  THE WALK OF (Incarnation).String: what it returns once fmt's text is told.
-/
import Derived.Test.Qxb6605926aFmtFmt
import Derived.Test.Qxb6605926aFmtHex
import Derived.WalkKit
import Derived.WalkSpells
import Derived.WalkLawsBesides
import Derived.Stop.JoinedTold
import Derived.Stop.Texts
namespace Go.Proofs.Qxb6605926aFmt
open Go.RowKit Go.Kit Go.Extern.Stop Go.Stop Go.Extern
attribute [local go_sem] Tryf.call7 Tryf.guard Tryf.fmt0 Tryf.fmt0r Tryf.op22_120

/-- What fmt is asked. -/
def asked (x : Int) : List (List UInt8) := [[37, 48, 49, 54, 120], Tryf.shape22, digits 8 (x % 18446744073709551616).toNat]

set_option maxHeartbeats 400000 in
theorem string_F (F : Interp) (x : Int) (w : World) (hF : F.answers w.tape) :
    Calls Tryf.prog 5 #[.int .u64 x] w fun e w' => e = .returned (.string (FmtStop.textOf (F "fmt.Sprintf" (asked x) 0))) ∧
      w' = (w.alloc (.cells #[.iface 22 (.int .u64 x)] 20)).drew := by
  have hF' := answers_open hF
  go_enter Tryf.func5, Tryf.ntmps5
  go_wp2
  go_ret
  exact ⟨rfl, rfl⟩

theorem parse_x : (FmtText.parse [37, 48, 49, 54, 120]).map FmtText.glue = some [.verb { widPresent := true, wid := 16, zero := true } 120] := by rfl

theorem text_x (x : Int) (hw : (Lit.int .u64 x).wf = true) : FmtText.text "fmt.Sprintf" (asked x) = some (FmtText.hexZeros false false 16 x) := by
  have hi := FmtText.operand_int_at (sh := Tryf.shape22) (k := .u64) rfl rfl x hw
  rw [asked, FmtText.text_sprintf_glued parse_x (FmtText.operands_cons hi FmtText.operands_nil)]
  simp [FmtText.render, FmtText.printArg_x_zero _ false 16 _ hw]

/-- The text of an incarnation. -/
def hexS (n : Nat) : ByteArray := ⟨(hexN 16 n).toArray⟩

theorem hexS_size (n : Nat) : (hexS n).size = 16 := by
  simp [hexS, ByteArray.size, hexN_length]

theorem textOf_x (F : Interp) (x : Int) (h0 : 0 ≤ x) (h1 : x < 18446744073709551616) : FmtStop.textOf (F.told "fmt.Sprintf" (asked x) 0) = hexS x.toNat := by
  have hw : (Lit.int .u64 x).wf = true := by simp [Lit.wf, IntKind.min, IntKind.max, IntKind.signed, IntKind.bits]; omega
  have e := hexZeros_eq x h0 h1
  have ht := told_string F (text_x x hw) (by rw [e, hexN_length]; omega)
  have hl := textOf_list F.told "fmt.Sprintf" (asked x)
  rw [ht, e] at hl
  apply ByteArray.ext
  rw [hexS, ← hl, Array.toArray_toList]

/-- (Incarnation).String: sixteen digits. -/
theorem string_any (F : Interp) (x : Int) (w : World) (hF : F.told.answers w.tape) (h0 : 0 ≤ x) (h1 : x < 18446744073709551616) :
    Calls Tryf.prog 5 #[.int .u64 x] w fun e w' => e = .returned (.string (hexS x.toNat)) ∧ w' = (w.alloc (.cells #[.iface 22 (.int .u64 x)] 20)).drew := by
  rw [← textOf_x F x h0 h1]
  exact string_F F.told x w hF

end Go.Proofs.Qxb6605926aFmt
