/-
  build.
-/
import Derived.Test.Qxb6605926aConf
import Derived.Deep.RegionWith
namespace Go.Proofs.Qxb6605926a
open Go.RowKit

/-- A slice of changes as an argument. -/
def SlV (w : World) (v : Value) (L : List Ch) : Prop :=
  (L = [] ∧ ∃ a cap, v = .slice a 0 cap ∧ (a = none → cap = 0)) ∨ (L ≠ [] ∧ ∃ b off cap, v = .slice (some ⟨b, off, none⟩) L.length cap ∧ ArrS w b off L)

theorem SlV.kept {w w' : World} {v : Value} {L : List Ch} (h : SlV w v L) (hb : Below w.heap.size w w') : SlV w' v L := by
  rcases h with h | ⟨h, b, off, cap, hv, hA⟩
  · exact Or.inl h
  · exact Or.inr ⟨h, b, off, cap, hv, hA.kept hb⟩

set_option maxHeartbeats 1000000 in
theorem toChanges_empty (a : Addr) (cap : Nat) (w : World) : Calls Try.prog 22 #[.slice (some a) 0 cap] w fun e w' => e = .returned (.slice (some ⟨w.heap.size, 0, none⟩) 0 0) ∧ Below w.heap.size w w' := by
  have he := fun w => Lib.run_eql_slice_nil (P := Try.prog) w 22 42 (some a) 0 cap 0 0 Try.underlying22
  have hm : ∀ w : World, (Instr.makeSlice 46 (.int .i64 0) (.int .i64 0)).run Try.prog w = .ok (.slice (some ⟨w.heap.size, 0, none⟩) 0 0) (w.alloc (.cells (madeCells #[.string ⟨#[]⟩, .string ⟨#[]⟩, .string ⟨#[]⟩, .int .u64 0] (0 * 4)) 56)) := make56 0 (by omega)
  go_enter Try.func22, Try.ntmps22
  go_wp2
  refine wp_loop_rounds 1 ?_
  rw [rounds_succ]
  go_wp2
  go_ret
  exact ⟨rfl, (Below.refl _ _).alloc (Nat.le_refl _) _⟩

theorem toChanges_slv (v : Value) (L : List Ch) (w : World) (hn : L.length ≤ 65536) (h : SlV w v L) : Calls Try.prog 22 #[v] w fun e w' => ∃ a n c, e = .returned (.slice a n c) ∧ Below w.heap.size w w' := by
  rcases h with ⟨_, a, cap, rfl, ha⟩ | ⟨_, b, off, cap, rfl, hA⟩
  · cases a with
    | none =>
      have e : cap = 0 := ha rfl
      subst e
      exact (toChanges_nil w).mono fun e w' ⟨he, hw⟩ => ⟨_, _, _, he, by rw [hw]; exact Below.refl _ _⟩
    | some a => exact (toChanges_empty a cap w).mono fun e w' ⟨he, hw⟩ => ⟨_, _, _, he, hw⟩
  · exact (toChanges_some b off cap L w hn hA).mono fun e w' ⟨he, _, hw⟩ => ⟨_, _, _, he, hw⟩

set_option maxHeartbeats 1000000 in
theorem build_00 (l t : Option Addr) (lc tc : Nat) (x0 x1 x2 x3 x4 x5 x6 x7 x8 x9 x10 x11 x12 x13 x14 x15 : Int) (w : World) : Calls Try.prog 11 #[.slice l 0 lc, .slice t 0 tc, .agg #[.int .u8 x0, .int .u8 x1, .int .u8 x2, .int .u8 x3, .int .u8 x4, .int .u8 x5, .int .u8 x6, .int .u8 x7, .int .u8 x8, .int .u8 x9, .int .u8 x10, .int .u8 x11, .int .u8 x12, .int .u8 x13, .int .u8 x14, .int .u8 x15]] w fun e w' => e = .returned (.agg #[.pointer none]) ∧ Below w.heap.size w w' := by
  go_enter Try.func11, Try.ntmps11
  go_wp2
  refine bodyPost_ret (v := .agg #[.pointer none]) (by simp [results, Try.results11, go_sem]) rfl ⟨rfl, ?_⟩
  exact ((Below.refl _ _).alloc (Nat.le_refl _) _).alloc (by simp) _

theorem free_kept {w w' : World} (h : Below w.heap.size w w') {p : Addr} (hp : p.block < w.heap.size) (hf : w.frozen? p = false) : w'.frozen? p = false := by
  rw [h.frozen hp]; exact hf

set_option maxHeartbeats 1000000 in
theorem build_L0 (b off n lc : Nat) (t : Option Addr) (tc : Nat) (x0 x1 x2 x3 x4 x5 x6 x7 x8 x9 x10 x11 x12 x13 x14 x15 : Int) (w : World) (hn : 0 < n)
    (hl : ∀ o1 o2, Calls Try.prog 22 #[.slice (some ⟨b, off, none⟩) n lc] ((w.alloc o1).alloc o2) fun e w' => ∃ a n c, e = .returned (.slice a n c) ∧ Below ((w.alloc o1).alloc o2).heap.size ((w.alloc o1).alloc o2) w') :
    Calls Try.prog 11 #[.slice (some ⟨b, off, none⟩) n lc, .slice t 0 tc, .agg #[.int .u8 x0, .int .u8 x1, .int .u8 x2, .int .u8 x3, .int .u8 x4, .int .u8 x5, .int .u8 x6, .int .u8 x7, .int .u8 x8, .int .u8 x9, .int .u8 x10, .int .u8 x11, .int .u8 x12, .int .u8 x13, .int .u8 x14, .int .u8 x15]] w fun e w' => ∃ p, e = .returned (.agg #[.pointer (some ⟨p, 0, none⟩)]) ∧ w'.cell? ⟨p, 1, none⟩ = some (.pointer none) ∧ Below w.heap.size w w' := by
  have hn0 : ((n : Int) == 0) = false := by simp; omega
  go_enter Try.func11, Try.ntmps11
  go_wp2_with fail
  refine (hl _ _).mono ?_
  rintro e w1 ⟨a, m, c, rfl, hb1⟩
  go_wp2_with fail
  refine (newLive_any _ _ _ _).mono ?_
  rintro e w2 ⟨rfl, hc2, hb2⟩
  have hb12 := below_trans' hb1 hb2
  have hw2 := block_lt_of_cell hc2
  have hsz := hb1.size
  have k1 : w2.cell? ⟨w.heap.size + 1, 0, none⟩ = some (.pointer none) := cell_kept hb12 (by go_simp)
  have k2 : w2.frozen? ⟨w.heap.size + 1, 0, none⟩ = false := free_kept hb12 (by simp) (by go_simp)
  have HB : Hid (Below w.heap.size w w2) := below_trans' (((Below.refl _ _).alloc (Nat.le_refl _) _).alloc (by simp) _) hb12
  have hne : w1.heap.size + 1 ≠ w.heap.size + 1 := by simp at hsz; omega
  clear hb1 hb2 hb12 hsz
  go_wp2_with fail
  refine bodyPost_ret (v := .agg #[.pointer (some ⟨w1.heap.size + 1, 0, none⟩)]) (by simp [results, Try.results11, go_sem, k1]) rfl ⟨_, rfl, ?_, HB.out.setCell (by simp) _⟩
  rw [World.cell?_setCell_other _ _ _ _ (by simp)]
  exact hc2

end Go.Proofs.Qxb6605926a
