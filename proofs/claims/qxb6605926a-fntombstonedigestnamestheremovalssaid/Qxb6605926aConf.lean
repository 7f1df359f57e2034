/-
  ZZnewConfiguration, ZZnewConfigurationLive.
-/
import Derived.Test.Qxb6605926aMake
namespace Go.Proofs.Qxb6605926a
open Go.RowKit

set_option maxHeartbeats 1000000 in
theorem newLive_any (a : Option Addr) (n cap : Nat) (w : World) : Calls Try.prog 21 #[.slice a n cap] w fun e w' => e = .returned (.agg #[.pointer (some ⟨w.heap.size + 1, 0, none⟩)]) ∧ w'.cell? ⟨w.heap.size + 1, 1, none⟩ = some (.pointer none) ∧ Below w.heap.size w w' := by
  go_enter Try.func21, Try.ntmps21
  go_wp2
  refine bodyPost_ret (v := .agg #[.pointer (some ⟨w.heap.size + 1, 0, none⟩)]) (by simp [results, Try.results21, go_sem]) rfl ⟨rfl, by go_simp, ?_⟩
  exact ((Below.refl _ _).alloc (Nat.le_refl _) _).alloc (by simp) _

theorem third_of_four (w : World) (A B C D : Obj) : ((((w.alloc A).alloc B).alloc C).alloc D).heap[w.heap.size + 1 + 1]? = some C := by
  rw [Below.heap_alloc _ _ _ (by simp)]
  have e : w.heap.size + 1 + 1 = ((w.alloc A).alloc B).heap.size := by simp
  rw [e]
  exact heap_alloc_new _ _

set_option maxHeartbeats 1000000 in
theorem newConf_any (l : Option Addr) (ln lc : Nat) (a n cap : Nat) (x0 x1 x2 x3 x4 x5 x6 x7 x8 x9 x10 x11 x12 x13 x14 x15 : Int) (w : World) : Calls Try.prog 23 #[.slice l ln lc, .slice (some ⟨a, 0, none⟩) n cap, .agg #[.int .u8 x0, .int .u8 x1, .int .u8 x2, .int .u8 x3, .int .u8 x4, .int .u8 x5, .int .u8 x6, .int .u8 x7, .int .u8 x8, .int .u8 x9, .int .u8 x10, .int .u8 x11, .int .u8 x12, .int .u8 x13, .int .u8 x14, .int .u8 x15]] w fun e w' =>
    e = .returned (.agg #[.pointer (some ⟨w.heap.size + 1 + 1 + 1, 0, none⟩)]) ∧ w'.cell? ⟨w.heap.size + 1 + 1 + 1, 1, none⟩ = some (.pointer (some ⟨w.heap.size + 1 + 1, 0, none⟩)) ∧
    w'.heap[w.heap.size + 1 + 1]? = some (.cells #[.slice (some ⟨a, 0, none⟩) n cap, .int .u8 x0, .int .u8 x1, .int .u8 x2, .int .u8 x3, .int .u8 x4, .int .u8 x5, .int .u8 x6, .int .u8 x7, .int .u8 x8, .int .u8 x9, .int .u8 x10, .int .u8 x11, .int .u8 x12, .int .u8 x13, .int .u8 x14, .int .u8 x15] 59 (0, 0)) ∧ Below w.heap.size w w' := by
  go_enter Try.func23, Try.ntmps23
  go_wp2
  refine bodyPost_ret (v := .agg #[.pointer (some ⟨w.heap.size + 1 + 1 + 1, 0, none⟩)]) (by simp [results, Try.results23, go_sem]) rfl ⟨rfl, by go_simp, third_of_four _ _ _ _ _, ?_⟩
  exact ((((Below.refl _ _).alloc (Nat.le_refl _) _).alloc (by simp) _).alloc (by simp; omega) _).alloc (by simp; omega) _

end Go.Proofs.Qxb6605926a
