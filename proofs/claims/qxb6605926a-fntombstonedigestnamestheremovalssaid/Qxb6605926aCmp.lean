/-
  (Change).compare, (Configuration).tombstones.
-/
import Derived.Test.Qxb6605926aLeaf
namespace Go.Proofs.Qxb6605926a
open Go.RowKit

set_option maxHeartbeats 1000000 in
theorem compare_any (c d : Ch) (w : World) : Calls Try.prog 33 #[.agg #[.string c.op, .string c.id, .string c.addr, .int .u64 c.inc], .agg #[.string d.op, .string d.id, .string d.addr, .int .u64 d.inc]] w fun e w' =>
    ∃ v : Int, e = .returned (.int .i64 v) ∧ (0 ≤ v ↔ ¬ ltC c d) ∧ Below w.heap.size w w' := by
  obtain ⟨co, ci, ca, cn⟩ := c
  obtain ⟨do', di, da, dn⟩ := d
  simp only
  by_cases h1 : Lib.compareBytes ci.data.toList di.data.toList = 0
  · by_cases h2 : Lib.compareBytes co.data.toList do'.data.toList = 0
    · by_cases h3 : Lib.compareBytes ca.data.toList da.data.toList = 0
      · go_enter Try.func33, Try.ntmps33
        go_wp2_with (first | (go_at_call 34; refine (stringsCompare_any _ _ _).mono ?_; rintro e w' ⟨rfl, rfl⟩) | (go_at_call 35; refine (cmpCompare_any _ _ _).mono ?_; rintro e w' ⟨⟨v, rfl, hv⟩, rfl⟩))
        go_ret
        exact ⟨_, rfl, hv.trans (cmp_way4 h1 h2 h3), ((Below.refl _ _).alloc (Nat.le_refl _) _).alloc (by simp) _⟩
      · go_enter Try.func33, Try.ntmps33
        go_wp2_with (go_at_call 34; refine (stringsCompare_any _ _ _).mono ?_; rintro e w' ⟨rfl, rfl⟩)
        go_ret
        exact ⟨_, rfl, cmp_way3 h1 h2 h3, ((Below.refl _ _).alloc (Nat.le_refl _) _).alloc (by simp) _⟩
    · go_enter Try.func33, Try.ntmps33
      go_wp2_with (go_at_call 34; refine (stringsCompare_any _ _ _).mono ?_; rintro e w' ⟨rfl, rfl⟩)
      go_ret
      exact ⟨_, rfl, cmp_way2 h1 h2, ((Below.refl _ _).alloc (Nat.le_refl _) _).alloc (by simp) _⟩
  · go_enter Try.func33, Try.ntmps33
    go_wp2_with (go_at_call 34; refine (stringsCompare_any _ _ _).mono ?_; rintro e w' ⟨rfl, rfl⟩)
    go_ret
    exact ⟨_, rfl, cmp_way1 h1, ((Below.refl _ _).alloc (Nat.le_refl _) _).alloc (by simp) _⟩

/-- What a configuration is in memory, so far as its tombstones go: 'T': their changes; 'dg': their digest's sixteen cells. -/
def Cfg (w : World) (p : Option Addr) (T : List Ch) (dg : Nat → Value) : Prop :=
  (T = [] ∧ (p = none ∨ ∃ b, p = some ⟨b, 0, none⟩ ∧ w.cell? ⟨b, 1, none⟩ = some (.pointer none))) ∨
  (T ≠ [] ∧ ∃ b t a cap, p = some ⟨b, 0, none⟩ ∧ w.cell? ⟨b, 1, none⟩ = some (.pointer (some ⟨t, 0, none⟩)) ∧ w.cell? ⟨t, 0, none⟩ = some (.slice (some ⟨a, 0, none⟩) T.length cap) ∧
    (∀ j, j < 16 → w.cell? ⟨t, 1 + j, none⟩ = some (dg j)) ∧
    ∀ i, i < T.length → w.cell? ⟨a, i * 4, none⟩ = some (.string (T.getD i dC).op) ∧ w.cell? ⟨a, i * 4 + 1, none⟩ = some (.string (T.getD i dC).id) ∧ w.cell? ⟨a, i * 4 + 2, none⟩ = some (.string (T.getD i dC).addr) ∧ w.cell? ⟨a, i * 4 + 3, none⟩ = some (.int .u64 (T.getD i dC).inc))

set_option maxHeartbeats 400000 in
theorem tombs_none (w : World) : Calls Try.prog 24 #[.agg #[.pointer none]] w fun e w' => e = .returned (.pointer none) ∧ w' = w.alloc (.cells #[.pointer none] 31) := by
  go_enter Try.func24, Try.ntmps24
  go_wp2
  go_ret
  exact ⟨rfl, rfl⟩

set_option maxHeartbeats 400000 in
theorem tombs_some (b : Nat) (q : Option Addr) (w : World) (hc : w.cell? ⟨b, 1, none⟩ = some (.pointer q)) : Calls Try.prog 24 #[.agg #[.pointer (some ⟨b, 0, none⟩)]] w fun e w' => e = .returned (.pointer q) ∧ w' = w.alloc (.cells #[.pointer (some ⟨b, 0, none⟩)] 31) := by
  have hb : b < w.heap.size := block_lt_of_cell hc
  have hc1 : (w.alloc (.cells #[.pointer (some ⟨b, 0, none⟩)] 31)).cell? ⟨b, 1, none⟩ = some (.pointer q) := by
    rw [World.cell?_alloc_past _ _ _ hb]; exact hc
  go_enter Try.func24, Try.ntmps24
  go_wp2
  go_ret
  exact ⟨rfl, rfl⟩

end Go.Proofs.Qxb6605926a
