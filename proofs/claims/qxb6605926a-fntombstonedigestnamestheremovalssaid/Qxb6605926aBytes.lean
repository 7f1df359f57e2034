/-
  chgBytes, zzBytes: they return; nothing turns.
-/
import Derived.Test.Qxb6605926aWell
namespace Go.Proofs.Qxb6605926a
open Go.RowKit

/-- It returned some int. -/
def RetI (e : Ending) : Prop := ∃ v : Int, e = .returned (.int .i64 v)
theorem RetI.mk {v : Int} : RetI (.returned (.int .i64 v)) := ⟨v, rfl⟩

set_option maxHeartbeats 2000000 in
theorem chgBytes_any (a : Option Addr) (cap : Nat) (L : List Ch) (w : World) (hn : L.length ≤ 9223372036854775807) (h : SlA w a L) : Calls Try.prog 8 #[.slice a L.length cap] w fun e w' => RetI e ∧ w' = w := by
  have HL : Hid (SlA w a L) := h
  clear h
  go_enter Try.func8, Try.ntmps8
  go_wp2
  go_loop [3, 4] (fun s i => ∃ (k : Nat) (v : Int), k ≤ L.length ∧ i = .int .i64 k ∧ s = .int .i64 v) (fun _ i => L.length - (intOf i).toNat)
  case atStart => exact ⟨0, 0, by omega, rfl, rfl⟩
  case round =>
    obtain ⟨k, v, hk, rfl, rfl⟩ := hrel
    by_cases hlt : k < L.length
    · obtain ⟨b, off, ha, hA⟩ := HL.out (by omega)
      obtain ⟨z0, z1, z2, z3⟩ := hA k hlt
      subst ha
      generalize L.getD k dC = c at z0 z1 z2 z3
      clear hA
      go_wp2_with fail
      refine (addLen_any _ _ _).mono ?_
      rintro e w1 ⟨⟨v1, rfl⟩, rfl⟩
      go_wp2_with fail
      refine (addLen_any _ _ _).mono ?_
      rintro e w1 ⟨⟨v2, rfl⟩, rfl⟩
      go_wp2_with fail
      refine (addLen_any _ _ _).mono ?_
      rintro e w1 ⟨⟨v3, rfl⟩, rfl⟩
      go_wp2_with fail
      refine (addLen_any _ _ _).mono ?_
      rintro e w1 ⟨⟨v4, rfl⟩, rfl⟩
      go_wp2_with fail
      · go_ret
        exact ⟨RetI.mk, rfl⟩
      · go_round
        case rel => exact ⟨k + 1, v4, by omega, by go_num, rfl⟩
        case measure => simp [intOf]; omega
    · go_wp2
      go_ret
      exact ⟨RetI.mk, rfl⟩

end Go.Proofs.Qxb6605926a
