/-
  THE LEAVES' WALKS: addLen, chgLess, strings.Compare, cmp.Compare, (Change).compare, (Configuration).tombstones.
-/
import Derived.Test.Qxb6605926aRows
import Derived.Test.Qxb6605926aPlain
import Derived.WalkKit
import Derived.WalkSpells
import Derived.WalkLawsBesides
import Derived.Lib.Strings
import Derived.Lib.Walk
import Derived.Lib.Bytealg
namespace Go.Proofs.Qxb6605926a
open Go.RowKit

/-- addLen: some number. -/
theorem addLen_any (n k : Int) (w : World) : Calls Try.prog 7 #[.int .i64 n, .int .i64 k] w fun e w' => (∃ v : Int, e = .returned (.int .i64 v)) ∧ w' = w := by
  by_cases h1 : 1048576 < k
  · go_enter Try.func7, Try.ntmps7
    go_wp2
    all_goals (go_ret; exact ⟨⟨_, rfl⟩, rfl⟩)
  · by_cases h2 : 1048576 < n
    · go_enter Try.func7, Try.ntmps7
      go_wp2
      all_goals (go_ret; exact ⟨⟨_, rfl⟩, rfl⟩)
    · go_enter Try.func7, Try.ntmps7
      go_wp2
      all_goals (go_ret; exact ⟨⟨_, rfl⟩, rfl⟩)

/-- The four cells. -/
def cellsC (c : Ch) : Array Value := #[.string c.op, .string c.id, .string c.addr, .int .u64 c.inc]

set_option maxHeartbeats 400000 in
theorem chgLess_any (c d : Ch) (w : World) : Calls Try.prog 30 #[.agg #[.string c.op, .string c.id, .string c.addr, .int .u64 c.inc], .agg #[.string d.op, .string d.id, .string d.addr, .int .u64 d.inc]] w fun e w' =>
    ∃ b : Bool, e = .returned (.bool b) ∧ (b = true ↔ ltC c d) ∧ Below w.heap.size w w' := by
  obtain ⟨co, ci, ca, cn⟩ := c
  obtain ⟨do', di, da, dn⟩ := d
  simp only
  go_enter Try.func30, Try.ntmps30
  go_wp2
  all_goals
    go_ret
    refine ⟨_, rfl, ?_, ((Below.refl _ _).alloc (Nat.le_refl _) _).alloc (by simp) _⟩
    first | exact lt_way1 ‹_› | exact lt_way2 ‹_› ‹_› | exact lt_way3 ‹_› ‹_› ‹_› | exact lt_way4 ‹_› ‹_› ‹_›

set_option maxHeartbeats 1000000 in
theorem compareString_any (a b : ByteArray) (w : World) :
    Calls Try.prog 36 #[.string a, .string b] w fun e w' => e = .returned (.int .i64 (Lib.compareBytes a.data.toList b.data.toList)) ∧ w' = w := by
  go_enter Try.func36, Try.ntmps36
  go_wp2
  rw [run_callFunc_extern Try.func38 (by kernel_rfl) (by kernel_rfl) (by kernel_rfl) (e := Extern.BytealgCompare.compare) (by kernel_rfl), Lib.run_compareString]
  simp only [Result.andThen]
  rw [Oper.upon_value]
  go_wp2
  go_ret
  exact ⟨rfl, rfl⟩

theorem stringsCompare_any (a b : ByteArray) (w : World) :
    Calls Try.prog 34 #[.string a, .string b] w fun e w' => e = .returned (.int .i64 (Lib.compareBytes a.data.toList b.data.toList)) ∧ w' = w := by
  go_enter Try.func34, Try.ntmps34
  go_wp2_with (go_at_call 36; refine (compareString_any _ _ _).mono ?_; rintro e w' ⟨rfl, rfl⟩)
  go_ret
  exact ⟨rfl, rfl⟩

theorem cmpCompare_any (a b : Int) (w : World) :
    Calls Try.prog 35 #[.int .u64 a, .int .u64 b] w fun e w' => (∃ v : Int, e = .returned (.int .i64 v) ∧ (0 ≤ v ↔ b ≤ a)) ∧ w' = w := by
  by_cases h1 : a < b
  · go_enter Try.func35, Try.ntmps35
    go_wp2
    go_ret
    exact ⟨⟨_, rfl, by omega⟩, rfl⟩
  · go_enter Try.func35, Try.ntmps35
    go_wp2
    all_goals
      go_ret
      exact ⟨⟨_, rfl, by omega⟩, rfl⟩

end Go.Proofs.Qxb6605926a
