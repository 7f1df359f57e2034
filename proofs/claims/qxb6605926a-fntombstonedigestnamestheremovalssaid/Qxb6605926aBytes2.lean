/-
  zzBytes_FnTombstoneDigestNamesTheRemovals: it returns some bool; nothing turns.
-/
import Derived.Test.Qxb6605926aBytes
namespace Go.Proofs.Qxb6605926a
open Go.RowKit

/-- It returned some bool. -/
def RetX (e : Ending) : Prop := ∃ v : Bool, e = .returned (.bool v)
theorem RetX.mk {v : Bool} : RetX (.returned (.bool v)) := ⟨v, rfl⟩

set_option maxRecDepth 100000 in
set_option maxHeartbeats 4000000 in
theorem zzBytes_any (la ta : Option Addr) (lc tc : Nat) (L T : List Ch) (x0 x1 x2 x3 x4 x5 x6 x7 x8 x9 x10 x11 x12 x13 x14 x15 : Int) (w : World) (hnL : L.length ≤ 9223372036854775807) (hnT : T.length ≤ 9223372036854775807) (hL : SlA w la L) (hT : SlA w ta T) :
    Calls Try.prog 16 #[.slice la L.length lc, .slice ta T.length tc, .agg #[.int .u8 x0, .int .u8 x1, .int .u8 x2, .int .u8 x3, .int .u8 x4, .int .u8 x5, .int .u8 x6, .int .u8 x7, .int .u8 x8, .int .u8 x9, .int .u8 x10, .int .u8 x11, .int .u8 x12, .int .u8 x13, .int .u8 x14, .int .u8 x15]] w fun e w' => RetX e ∧ Below w.heap.size w w' := by
  have hb0 : Below w.heap.size w (w.alloc (.cells #[.int .u8 x0, .int .u8 x1, .int .u8 x2, .int .u8 x3, .int .u8 x4, .int .u8 x5, .int .u8 x6, .int .u8 x7, .int .u8 x8, .int .u8 x9, .int .u8 x10, .int .u8 x11, .int .u8 x12, .int .u8 x13, .int .u8 x14, .int .u8 x15] 23)) := (Below.refl _ _).alloc (Nat.le_refl _) _
  obtain ⟨w0, hw0⟩ : ∃ w0, w0 = w.alloc (.cells #[.int .u8 x0, .int .u8 x1, .int .u8 x2, .int .u8 x3, .int .u8 x4, .int .u8 x5, .int .u8 x6, .int .u8 x7, .int .u8 x8, .int .u8 x9, .int .u8 x10, .int .u8 x11, .int .u8 x12, .int .u8 x13, .int .u8 x14, .int .u8 x15] 23) := ⟨_, rfl⟩
  have HL : Hid (SlA w0 la L) := by rw [hw0]; exact hL.kept hb0
  have HT : Hid (SlA w0 ta T) := by rw [hw0]; exact hT.kept hb0
  have HB : Hid (Below w.heap.size w w0) := by rw [hw0]; exact hb0
  clear hL hT hb0
  go_enter Try.func16, Try.ntmps16
  go_wp2_with fail
  all_goals rw [← hw0]
  all_goals clear hw0
  · go_ret
    exact ⟨RetX.mk, HB.out⟩
  go_loop [7, 8] (fun s i => ∃ (k : Nat) (v : Int), k ≤ L.length ∧ i = .int .i64 k ∧ s = .int .i64 v ∧ 0 ≤ v ∧ v ≤ 1048576) (fun _ i => L.length - (intOf i).toNat)
  case atStart => exact ⟨0, _, by omega, rfl, rfl, by omega, by omega⟩
  case round =>
    obtain ⟨k, v, hk, rfl, rfl, hv0, hv1⟩ := hrel
    by_cases hlt : k < L.length
    · obtain ⟨b, off, ha, hA⟩ := HL.out (by omega)
      obtain ⟨z0, z1, z2, z3⟩ := hA k hlt
      subst ha
      generalize L.getD k dC = c at z0 z1 z2 z3
      clear hA
      go_wp2_with fail
      all_goals first
        | (go_ret; exact ⟨RetX.mk, HB.out⟩)
        | skip
      go_round
      case rel => exact ⟨k + 1, _, by omega, by go_num, rfl, by omega, by omega⟩
      case measure => simp [intOf]; omega
    · go_wp2_with fail
      · go_ret
        exact ⟨RetX.mk, HB.out⟩
      · go_ret
        exact ⟨RetX.mk, HB.out⟩
      go_loop [7, 9] (fun s i => ∃ (k : Nat) (v : Int), k ≤ T.length ∧ i = .int .i64 k ∧ s = .int .i64 v ∧ 0 ≤ v ∧ v ≤ 1048576) (fun _ i => T.length - (intOf i).toNat)
      case atStart => exact ⟨0, _, by omega, rfl, rfl, by omega, by omega⟩
      case round =>
        obtain ⟨q, u, hq, rfl, rfl, hu0, hu1⟩ := hrel
        by_cases hqt : q < T.length
        · obtain ⟨b, off, ha, hA⟩ := HT.out (by omega)
          obtain ⟨z0, z1, z2, z3⟩ := hA q hqt
          subst ha
          generalize T.getD q dC = c at z0 z1 z2 z3
          clear hA
          go_wp2_with fail
          all_goals first
            | (go_ret; exact ⟨RetX.mk, HB.out⟩)
            | skip
          go_round
          case rel => exact ⟨q + 1, _, by omega, by go_num, rfl, by omega, by omega⟩
          case measure => simp [intOf]; omega
        · go_wp2_with fail
          go_ret
          exact ⟨RetX.mk, HB.out⟩

end Go.Proofs.Qxb6605926a
