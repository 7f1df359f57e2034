/-
  THE WALKS OF NewProbes, (*atomic.Bool).Load, (*atomic.Bool).Store, ZZprobesStopping, ZZprobesStop.
-/
import Derived.Test.Qxb6605948aRows
import Derived.WalkKit
import Derived.WalkSpells
import Derived.WalkLawsBesides
import Derived.Laws.LoneSync
import Derived.RegionCalls
namespace Go.Proofs.Qxb6605948a
open Go.RowKit

theorem new_any (w : World) : Calls Try.prog 6 #[] w fun e w' => e = .returned (.pointer (some ⟨w.heap.size, 0, none⟩)) ∧ w' = w.alloc (.cells #[.int .u32 0] 36) := by
  go_enter Try.func6, Try.ntmps6
  go_wp2
  go_ret
  exact ⟨rfl, rfl⟩

theorem load_any (b : Nat) (x : Int) (r : Bool) (hr : (x != 0) = r) (w : World) (hc : w.cell? ⟨b, 0, none⟩ = some (.int .u32 x)) : Calls Try.prog 10 #[.pointer (some ⟨b, 0, none⟩)] w fun e w' => e = .returned (.bool r) ∧ w' = w := by
  have hl := run_call_load (P := Try.prog) Try.func13 (by kernel_rfl) (by kernel_rfl) (by kernel_rfl) .u32 (by kernel_rfl) hc
  go_enter Try.func10, Try.ntmps10
  go_wp2
  go_ret
  exact ⟨rfl, rfl⟩

theorem stopping_any (b : Nat) (x : Int) (r : Bool) (hr : (x != 0) = r) (w : World) (hc : w.cell? ⟨b, 0, none⟩ = some (.int .u32 x)) : Calls Try.prog 7 #[.pointer (some ⟨b, 0, none⟩)] w fun e w' => e = .returned (.bool r) ∧ w' = w := by
  go_enter Try.func7, Try.ntmps7
  go_wp2_with (go_at_call 10; refine (load_any b x r hr _ hc).mono ?_; rintro e w' ⟨rfl, rfl⟩)
  go_ret
  exact ⟨rfl, rfl⟩

theorem store_any (b : Nat) (x : Value) (w : World) (hc : w.cell? ⟨b, 0, none⟩ = some x) (hz : w.frozen? ⟨b, 0, none⟩ = false) : Calls Try.prog 11 #[.pointer (some ⟨b, 0, none⟩), .bool true] w fun e w' => e = .returned (.tuple #[]) ∧ w' = (w.setCell ⟨b, 0, none⟩ (.int .u32 1)).drew := by
  have hc' : w.drew.cell? ⟨b, 0, none⟩ = some x := by go_simp
  have hz' : w.drew.frozen? ⟨b, 0, none⟩ = false := by go_simp
  have hst := run_call_store (P := Try.prog) Try.func14 (by kernel_rfl) (by kernel_rfl) (by kernel_rfl) (by kernel_rfl) (k := .u32) (y := 1) hc' hz'
  go_enter Try.func11, Try.ntmps11
  go_wp2
  go_region_calls
  all_goals (go_end0; exact ⟨rfl, rfl⟩)

theorem stop_any (b : Nat) (x : Value) (w : World) (hc : w.cell? ⟨b, 0, none⟩ = some x) (hz : w.frozen? ⟨b, 0, none⟩ = false) : Calls Try.prog 8 #[.pointer (some ⟨b, 0, none⟩)] w fun e w' => e = .returned (.tuple #[]) ∧ w' = (w.setCell ⟨b, 0, none⟩ (.int .u32 1)).drew := by
  go_enter Try.func8, Try.ntmps8
  go_wp2_with (go_at_call 11; refine (store_any b x _ hc hz).mono ?_; rintro e w' ⟨rfl, rfl⟩)
  go_end0
  exact ⟨rfl, rfl⟩

theorem ready_walk (w : World) : Calls Try.prog 3 #[] w fun e w' => e = .returned (.bool true) ∧ Grown w w' := by
  have h1 := stopping_any w.heap.size 0 false rfl (w.alloc (.cells #[.int .u32 0] 36)) (by go_simp)
  go_enter Try.func3, Try.ntmps3
  go_wp2_with (first | (go_at_call 6; refine (new_any _).mono ?_; rintro e w' ⟨rfl, rfl⟩) | (go_at_call 7; refine h1.mono ?_; rintro e w' ⟨rfl, rfl⟩))
  go_ret
  exact ⟨rfl, (Grown.refl _).alloc _ _⟩

end Go.Proofs.Qxb6605948a
