/-
  compareSourceGroups, ZZcompareSourceGroups.
-/
import Derived.Test.Qxb6607687aLeaf
import Derived.Deep.RegionWith
namespace Go.Proofs.Qxb6607687a
open Go.RowKit

/-- Four numbers as a row. -/
def v4 (a b c d : Int) : Nat → Int := fun j => [a, b, c, d].getD j 0

theorem row_of {w : World} {b off : Nat} {x0 x1 x2 x3 : Int} (h0 : w.cell? ⟨b, off, none⟩ = some (.int .u8 x0)) (h1 : w.cell? ⟨b, off + 1, none⟩ = some (.int .u8 x1)) (h2 : w.cell? ⟨b, off + 2, none⟩ = some (.int .u8 x2)) (h3 : w.cell? ⟨b, off + 3, none⟩ = some (.int .u8 x3)) : Row4 w b off (v4 x0 x1 x2 x3) := by
  intro j hj
  match j, hj with
  | 0, _ => exact h0
  | 1, _ => exact h1
  | 2, _ => exact h2
  | 3, _ => exact h3

theorem bytes_of {x0 x1 x2 x3 : Int} (h0 : 0 ≤ x0 ∧ x0 ≤ 255) (h1 : 0 ≤ x1 ∧ x1 ≤ 255) (h2 : 0 ≤ x2 ∧ x2 ≤ 255) (h3 : 0 ≤ x3 ∧ x3 ≤ 255) : Bytes4 (v4 x0 x1 x2 x3) := by
  intro j hj
  match j, hj with
  | 0, _ => exact h0
  | 1, _ => exact h1
  | 2, _ => exact h2
  | 3, _ => exact h3

/-- The comparison: by group, then by source. -/
def cmpSG (sA gA sB gB : Int) : Int := orI (sg gA gB) (sg sA sB)

set_option maxHeartbeats 1000000 in
theorem compareSG_any (s0 s1 s2 s3 g0 g1 g2 g3 t0 t1 t2 t3 h0 h1 h2 h3 : Int) (w : World) (bs : Bytes4 (v4 s0 s1 s2 s3)) (bg : Bytes4 (v4 g0 g1 g2 g3)) (bt : Bytes4 (v4 t0 t1 t2 t3)) (bh : Bytes4 (v4 h0 h1 h2 h3)) :
    Calls Try.prog 31 #[.agg #[.int .u8 s0, .int .u8 s1, .int .u8 s2, .int .u8 s3, .int .u8 g0, .int .u8 g1, .int .u8 g2, .int .u8 g3], .agg #[.int .u8 t0, .int .u8 t1, .int .u8 t2, .int .u8 t3, .int .u8 h0, .int .u8 h1, .int .u8 h2, .int .u8 h3]] w fun e w' =>
      e = .returned (.int .i64 (cmpSG (num4 (v4 s0 s1 s2 s3)) (num4 (v4 g0 g1 g2 g3)) (num4 (v4 t0 t1 t2 t3)) (num4 (v4 h0 h1 h2 h3)))) ∧ Below w.heap.size w w' := by
  obtain ⟨W, hW⟩ : ∃ W, W = ((w.alloc (.cells #[.int .u8 s0, .int .u8 s1, .int .u8 s2, .int .u8 s3, .int .u8 g0, .int .u8 g1, .int .u8 g2, .int .u8 g3] 57)).alloc (.cells #[.int .u8 t0, .int .u8 t1, .int .u8 t2, .int .u8 t3, .int .u8 h0, .int .u8 h1, .int .u8 h2, .int .u8 h3] 57)) := ⟨_, rfl⟩
  have HB : Hid (Below w.heap.size w W) := by rw [hW]; exact ((Below.refl _ _).alloc (Nat.le_refl _) _).alloc (by simp) _
  have rg : Row4 W.drew w.heap.size 4 (v4 g0 g1 g2 g3) := by rw [hW]; exact row_of (by go_simp) (by go_simp) (by go_simp) (by go_simp)
  have rh : Row4 W.drew (w.heap.size + 1) 4 (v4 h0 h1 h2 h3) := by rw [hW]; exact row_of (by go_simp) (by go_simp) (by go_simp) (by go_simp)
  have rs : Row4 W.drew w.heap.size 0 (v4 s0 s1 s2 s3) := by rw [hW]; exact row_of (by go_simp) (by go_simp) (by go_simp) (by go_simp)
  have rt : Row4 W.drew (w.heap.size + 1) 0 (v4 t0 t1 t2 t3) := by rw [hW]; exact row_of (by go_simp) (by go_simp) (by go_simp) (by go_simp)
  have cg := compare4_any w.heap.size 4 (w.heap.size + 1) 4 4 4 _ _ W.drew bg bh rg rh
  have cs := compare4_any w.heap.size 0 (w.heap.size + 1) 0 4 4 _ _ W.drew bs bt rs rt
  generalize num4 (v4 s0 s1 s2 s3) = S at cs ⊢
  generalize num4 (v4 g0 g1 g2 g3) = G at cg ⊢
  generalize num4 (v4 t0 t1 t2 t3) = T at cs ⊢
  generalize num4 (v4 h0 h1 h2 h3) = R at cg ⊢
  clear rg rh rs rt bs bg bt bh
  go_enter Try.func31, Try.ntmps31
  go_wp2_with fail
  rw [← hW]
  clear hW
  go_region_with (first
    | (go_at_call_of 40 (⟨w.heap.size, 4, none⟩ : Addr); refine cg.mono ?_; rintro e w1 ⟨rfl, rfl⟩)
    | (go_at_call_of 40 (⟨w.heap.size, 0, none⟩ : Addr); refine cs.mono ?_; rintro e w1 ⟨rfl, rfl⟩)
    | (go_at_call 39; refine (or2_any W.heap.size 2 (sg G R) (sg S T) _ ?_ ?_).mono ?_; go_simp; go_simp; rintro e w1 ⟨rfl, rfl⟩))
  all_goals
    go_wp2
    go_ret
    exact ⟨rfl, ((HB.out.alloc HB.out.size _).drew)⟩

end Go.Proofs.Qxb6607687a
