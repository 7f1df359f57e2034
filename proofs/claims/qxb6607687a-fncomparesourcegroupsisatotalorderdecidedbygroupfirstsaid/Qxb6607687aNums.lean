/-
  THE WALK OF FnCompareSourceGroupsIsGroupThenSourceAsNumbers.
-/
import Derived.Test.Qxb6607687aKey
import Derived.Lib.QuietBelow
import Derived.BigQuiet
import Derived.Deep.RegionWith
namespace Go.Proofs.Qxb6607687a
open Go.RowKit Go.Sort

/-- By group, then by source, is by the number that the two make. -/
theorem cmpSG_num (S G T R : Int) (hS : 0 ≤ S ∧ S ≤ 4294967295) (hT : 0 ≤ T ∧ T ≤ 4294967295) : cmpSG S G T R = sg (G * 4294967296 + S) (R * 4294967296 + T) := by
  unfold cmpSG
  rcases Int.lt_trichotomy G R with h | h | h
  · rw [sg_lt h, orI_not _ (by decide), sg_lt (by omega)]
  · rw [sg_eq h, orI_zero]
    subst h
    rcases Int.lt_trichotomy S T with k | k | k
    · rw [sg_lt k, sg_lt (by omega)]
    · rw [sg_eq k, sg_eq (by omega)]
    · rw [sg_gt k, sg_gt (by omega)]
  · rw [sg_gt h, orI_not _ (by decide), sg_gt (by omega)]

set_option maxRecDepth 100000 in
set_option maxHeartbeats 600000 in
theorem numbers_any (s0 s1 s2 s3 g0 g1 g2 g3 t0 t1 t2 t3 h0 h1 h2 h3 : Int) (w : World) (bs : Bytes4 (v4 s0 s1 s2 s3)) (bg : Bytes4 (v4 g0 g1 g2 g3)) (bt : Bytes4 (v4 t0 t1 t2 t3)) (bh : Bytes4 (v4 h0 h1 h2 h3)) :
    Calls Try.prog 3 #[.agg #[.int .u8 s0, .int .u8 s1, .int .u8 s2, .int .u8 s3], .agg #[.int .u8 g0, .int .u8 g1, .int .u8 g2, .int .u8 g3], .agg #[.int .u8 t0, .int .u8 t1, .int .u8 t2, .int .u8 t3], .agg #[.int .u8 h0, .int .u8 h1, .int .u8 h2, .int .u8 h3]] w fun e w' => e = .returned (.bool true) ∧ Below w.heap.size w w' := by
  obtain ⟨W, hW⟩ : ∃ W, W = ((((w.alloc (.cells #[.int .u8 s0, .int .u8 s1, .int .u8 s2, .int .u8 s3] 22)).alloc (.cells #[.int .u8 g0, .int .u8 g1, .int .u8 g2, .int .u8 g3] 22)).alloc (.cells #[.int .u8 t0, .int .u8 t1, .int .u8 t2, .int .u8 t3] 22)).alloc (.cells #[.int .u8 h0, .int .u8 h1, .int .u8 h2, .int .u8 h3] 22)) := ⟨_, rfl⟩
  have HB : Hid (Below w.heap.size w W) := by rw [hW]; exact ((((Below.refl _ _).alloc (Nat.le_refl _) _).alloc (by simp) _).alloc (by simp; omega) _).alloc (by simp; omega) _
  have ks0 := cell_regrown (w := W) (a := ⟨w.heap.size, 0, none⟩) (v := .int .u8 s0) (by rw [hW]; go_simp)
  have ks1 := cell_regrown (w := W) (a := ⟨w.heap.size, 1, none⟩) (v := .int .u8 s1) (by rw [hW]; go_simp)
  have ks2 := cell_regrown (w := W) (a := ⟨w.heap.size, 2, none⟩) (v := .int .u8 s2) (by rw [hW]; go_simp)
  have ks3 := cell_regrown (w := W) (a := ⟨w.heap.size, 3, none⟩) (v := .int .u8 s3) (by rw [hW]; go_simp)
  have kg0 := cell_regrown (w := W) (a := ⟨w.heap.size + 1, 0, none⟩) (v := .int .u8 g0) (by rw [hW]; go_simp)
  have kg1 := cell_regrown (w := W) (a := ⟨w.heap.size + 1, 1, none⟩) (v := .int .u8 g1) (by rw [hW]; go_simp)
  have kg2 := cell_regrown (w := W) (a := ⟨w.heap.size + 1, 2, none⟩) (v := .int .u8 g2) (by rw [hW]; go_simp)
  have kg3 := cell_regrown (w := W) (a := ⟨w.heap.size + 1, 3, none⟩) (v := .int .u8 g3) (by rw [hW]; go_simp)
  have kt0 := cell_regrown (w := W) (a := ⟨w.heap.size + 1 + 1, 0, none⟩) (v := .int .u8 t0) (by rw [hW]; go_simp)
  have kt1 := cell_regrown (w := W) (a := ⟨w.heap.size + 1 + 1, 1, none⟩) (v := .int .u8 t1) (by rw [hW]; go_simp)
  have kt2 := cell_regrown (w := W) (a := ⟨w.heap.size + 1 + 1, 2, none⟩) (v := .int .u8 t2) (by rw [hW]; go_simp)
  have kt3 := cell_regrown (w := W) (a := ⟨w.heap.size + 1 + 1, 3, none⟩) (v := .int .u8 t3) (by rw [hW]; go_simp)
  have kh0 := cell_regrown (w := W) (a := ⟨w.heap.size + 1 + 1 + 1, 0, none⟩) (v := .int .u8 h0) (by rw [hW]; go_simp)
  have kh1 := cell_regrown (w := W) (a := ⟨w.heap.size + 1 + 1 + 1, 1, none⟩) (v := .int .u8 h1) (by rw [hW]; go_simp)
  have kh2 := cell_regrown (w := W) (a := ⟨w.heap.size + 1 + 1 + 1, 2, none⟩) (v := .int .u8 h2) (by rw [hW]; go_simp)
  have kh3 := cell_regrown (w := W) (a := ⟨w.heap.size + 1 + 1 + 1, 3, none⟩) (v := .int .u8 h3) (by rw [hW]; go_simp)
  have key := cmpSG_num (num4 (v4 s0 s1 s2 s3)) (num4 (v4 g0 g1 g2 g3)) (num4 (v4 t0 t1 t2 t3)) (num4 (v4 h0 h1 h2 h3)) (num4_bd bs) (num4_bd bt)
  have cZ := fun d os => Calls.regrown_of (zzCompare_any s0 s1 s2 s3 g0 g1 g2 g3 t0 t1 t2 t3 h0 h1 h2 h3 (grow (redrawn W d) os) bs bg bt bh)
  have cK := fun d os => Calls.regrown_of (orderKey_any s0 s1 s2 s3 g0 g1 g2 g3 (grow (redrawn W d) os) bs bg)
  have cL := fun d os => Calls.regrown_of (orderKey_any t0 t1 t2 t3 h0 h1 h2 h3 (grow (redrawn W d) os) bt bh)
  rw [key] at cZ
  clear key bs bg bt bh
  generalize num4 (v4 g0 g1 g2 g3) * 4294967296 + num4 (v4 s0 s1 s2 s3) = A at cZ cK
  generalize num4 (v4 h0 h1 h2 h3) * 4294967296 + num4 (v4 t0 t1 t2 t3) = B at cZ cL
  have cS := fun d os => Calls.regrown_of ((sign3_any A B (grow (redrawn W d) os)).mono fun e w' ⟨he, hw⟩ => (⟨he, by rw [hw]; exact Below.refl _ _⟩ : e = .returned (.int .i64 (sg A B)) ∧ Below (grow (redrawn W d) os).heap.size (grow (redrawn W d) os) w'))
  generalize sg A B = r at cZ cS
  go_enter Try.func3, Try.ntmps3
  go_wp2_with fail
  rw [← hW]
  clear hW
  refine wp_region_quiet_below (by kernel_rfl) (by kernel_rfl) ?_
  repeat (quiet_step (first | (go_at_call 8; exact cZ _ _) | (go_at_call_of 10 s0; exact cK _ _) | (go_at_call_of 10 t0; exact cL _ _) | (go_at_call 9; exact cS _ _)))
  refine wpQuiet_nil ?_
  intro _ hw'
  obtain ⟨⟨dq, osq⟩, hw''⟩ := hw'
  subst hw''
  go_wp2
  go_ret
  exact ⟨rfl, HB.out.trans ((below_regrown W dq osq).mono HB.out.size)⟩

end Go.Proofs.Qxb6607687a
