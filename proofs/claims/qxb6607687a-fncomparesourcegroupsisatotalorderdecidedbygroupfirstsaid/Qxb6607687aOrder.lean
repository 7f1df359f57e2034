/-
  THE WALK OF FnCompareSourceGroupsIsATotalOrderDecidedByGroupFirst, over what the five comparisons answer.
-/
import Derived.Test.Qxb6607687aKey
namespace Go.Proofs.Qxb6607687a
open Go.RowKit

theorem bcell {W w1 : World} (hb : Below W.heap.size W w1) : ∀ b o, b < W.heap.size → w1.cell? ⟨b, o, none⟩ = W.cell? ⟨b, o, none⟩ :=
  fun b o h => hb.cell (p := ⟨b, o, none⟩) h

theorem guard22 : Try.prog.eqGuardType Try.prog.depth 22 = false := by kernel_rfl

set_option maxRecDepth 100000 in
set_option maxHeartbeats 4000000 in
theorem order_core (s0 s1 s2 s3 g0 g1 g2 g3 t0 t1 t2 t3 u0 u1 u2 u3 y0 y1 y2 y3 z0 z1 z2 z3 ab bc ac : Int) (q1 q2 : Bool) (w : World)
    (C1 : ∀ wr : World, Calls Try.prog 8 #[.agg #[.int .u8 s0, .int .u8 s1, .int .u8 s2, .int .u8 s3], .agg #[.int .u8 g0, .int .u8 g1, .int .u8 g2, .int .u8 g3], .agg #[.int .u8 t0, .int .u8 t1, .int .u8 t2, .int .u8 t3], .agg #[.int .u8 u0, .int .u8 u1, .int .u8 u2, .int .u8 u3]] wr fun e w' => e = .returned (.int .i64 ab) ∧ Below wr.heap.size wr w')
    (C2 : ∀ wr : World, Calls Try.prog 8 #[.agg #[.int .u8 t0, .int .u8 t1, .int .u8 t2, .int .u8 t3], .agg #[.int .u8 u0, .int .u8 u1, .int .u8 u2, .int .u8 u3], .agg #[.int .u8 s0, .int .u8 s1, .int .u8 s2, .int .u8 s3], .agg #[.int .u8 g0, .int .u8 g1, .int .u8 g2, .int .u8 g3]] wr fun e w' => e = .returned (.int .i64 (-ab)) ∧ Below wr.heap.size wr w')
    (C3 : ∀ wr : World, Calls Try.prog 8 #[.agg #[.int .u8 t0, .int .u8 t1, .int .u8 t2, .int .u8 t3], .agg #[.int .u8 u0, .int .u8 u1, .int .u8 u2, .int .u8 u3], .agg #[.int .u8 y0, .int .u8 y1, .int .u8 y2, .int .u8 y3], .agg #[.int .u8 z0, .int .u8 z1, .int .u8 z2, .int .u8 z3]] wr fun e w' => e = .returned (.int .i64 bc) ∧ Below wr.heap.size wr w')
    (C4 : ∀ wr : World, Calls Try.prog 8 #[.agg #[.int .u8 s0, .int .u8 s1, .int .u8 s2, .int .u8 s3], .agg #[.int .u8 g0, .int .u8 g1, .int .u8 g2, .int .u8 g3], .agg #[.int .u8 y0, .int .u8 y1, .int .u8 y2, .int .u8 y3], .agg #[.int .u8 z0, .int .u8 z1, .int .u8 z2, .int .u8 z3]] wr fun e w' => e = .returned (.int .i64 ac) ∧ Below wr.heap.size wr w')
    (C5 : q2 = false → ∀ wr : World, Calls Try.prog 8 #[.agg #[.int .u8 y0, .int .u8 y1, .int .u8 y2, .int .u8 y3], .agg #[.int .u8 g0, .int .u8 g1, .int .u8 g2, .int .u8 g3], .agg #[.int .u8 s0, .int .u8 s1, .int .u8 s2, .int .u8 s3], .agg #[.int .u8 u0, .int .u8 u1, .int .u8 u2, .int .u8 u3]] wr fun e w' => e = .returned (.int .i64 ab) ∧ Below wr.heap.size wr w')
    (E1 : ∀ wr : World, (binOp .eql 22 (.agg #[.int .u8 s0, .int .u8 s1, .int .u8 s2, .int .u8 s3]) (.agg #[.int .u8 t0, .int .u8 t1, .int .u8 t2, .int .u8 t3])).run Try.prog wr = .ok (.bool q1) wr)
    (E2 : ∀ wr : World, (binOp .eql 22 (.agg #[.int .u8 g0, .int .u8 g1, .int .u8 g2, .int .u8 g3]) (.agg #[.int .u8 u0, .int .u8 u1, .int .u8 u2, .int .u8 u3])).run Try.prog wr = .ok (.bool q2) wr)
    (N2 : ∀ wr : World, (binOp .neq 22 (.agg #[.int .u8 g0, .int .u8 g1, .int .u8 g2, .int .u8 g3]) (.agg #[.int .u8 u0, .int .u8 u1, .int .u8 u2, .int .u8 u3])).run Try.prog wr = .ok (.bool (!q2)) wr)
    (ha0 : -1 ≤ ab) (ha1 : ab ≤ 1) (hz : ab = 0 ↔ (q1 = true ∧ q2 = true)) (hlo : ab ≤ 0 → bc ≤ 0 → ac ≤ 0) (hhi : 0 ≤ ab → 0 ≤ bc → 0 ≤ ac) :
    Calls Try.prog 4 #[.agg #[.int .u8 s0, .int .u8 s1, .int .u8 s2, .int .u8 s3], .agg #[.int .u8 g0, .int .u8 g1, .int .u8 g2, .int .u8 g3], .agg #[.int .u8 t0, .int .u8 t1, .int .u8 t2, .int .u8 t3], .agg #[.int .u8 u0, .int .u8 u1, .int .u8 u2, .int .u8 u3], .agg #[.int .u8 y0, .int .u8 y1, .int .u8 y2, .int .u8 y3], .agg #[.int .u8 z0, .int .u8 z1, .int .u8 z2, .int .u8 z3]] w fun e w' => e = .returned (.bool true) ∧ Below w.heap.size w w' := by
  obtain ⟨W, hW⟩ : ∃ W, W = (((((w.alloc (.cells #[.int .u8 s0, .int .u8 s1, .int .u8 s2, .int .u8 s3] 22)).alloc (.cells #[.int .u8 g0, .int .u8 g1, .int .u8 g2, .int .u8 g3] 22)).alloc (.cells #[.int .u8 t0, .int .u8 t1, .int .u8 t2, .int .u8 t3] 22)).alloc (.cells #[.int .u8 u0, .int .u8 u1, .int .u8 u2, .int .u8 u3] 22)).alloc (.cells #[.int .u8 y0, .int .u8 y1, .int .u8 y2, .int .u8 y3] 22)).alloc (.cells #[.int .u8 z0, .int .u8 z1, .int .u8 z2, .int .u8 z3] 22) := ⟨_, rfl⟩
  have HB : Hid (Below w.heap.size w W) := by rw [hW]; exact ((((((Below.refl _ _).alloc (Nat.le_refl _) _).alloc (by simp) _).alloc (by simp; omega) _).alloc (by simp; omega) _).alloc (by simp; omega) _).alloc (by simp; omega) _
  have hsz : W.heap.size = w.heap.size + 1 + 1 + 1 + 1 + 1 + 1 := by rw [hW]; simp
  have ks0 : W.cell? ⟨w.heap.size, 0, none⟩ = some (.int .u8 s0) := by rw [hW]; go_simp
  have ks1 : W.cell? ⟨w.heap.size, 1, none⟩ = some (.int .u8 s1) := by rw [hW]; go_simp
  have ks2 : W.cell? ⟨w.heap.size, 2, none⟩ = some (.int .u8 s2) := by rw [hW]; go_simp
  have ks3 : W.cell? ⟨w.heap.size, 3, none⟩ = some (.int .u8 s3) := by rw [hW]; go_simp
  have kg0 : W.cell? ⟨w.heap.size + 1, 0, none⟩ = some (.int .u8 g0) := by rw [hW]; go_simp
  have kg1 : W.cell? ⟨w.heap.size + 1, 1, none⟩ = some (.int .u8 g1) := by rw [hW]; go_simp
  have kg2 : W.cell? ⟨w.heap.size + 1, 2, none⟩ = some (.int .u8 g2) := by rw [hW]; go_simp
  have kg3 : W.cell? ⟨w.heap.size + 1, 3, none⟩ = some (.int .u8 g3) := by rw [hW]; go_simp
  have kt0 : W.cell? ⟨w.heap.size + 1 + 1, 0, none⟩ = some (.int .u8 t0) := by rw [hW]; go_simp
  have kt1 : W.cell? ⟨w.heap.size + 1 + 1, 1, none⟩ = some (.int .u8 t1) := by rw [hW]; go_simp
  have kt2 : W.cell? ⟨w.heap.size + 1 + 1, 2, none⟩ = some (.int .u8 t2) := by rw [hW]; go_simp
  have kt3 : W.cell? ⟨w.heap.size + 1 + 1, 3, none⟩ = some (.int .u8 t3) := by rw [hW]; go_simp
  have ku0 : W.cell? ⟨w.heap.size + 1 + 1 + 1, 0, none⟩ = some (.int .u8 u0) := by rw [hW]; go_simp
  have ku1 : W.cell? ⟨w.heap.size + 1 + 1 + 1, 1, none⟩ = some (.int .u8 u1) := by rw [hW]; go_simp
  have ku2 : W.cell? ⟨w.heap.size + 1 + 1 + 1, 2, none⟩ = some (.int .u8 u2) := by rw [hW]; go_simp
  have ku3 : W.cell? ⟨w.heap.size + 1 + 1 + 1, 3, none⟩ = some (.int .u8 u3) := by rw [hW]; go_simp
  have ky0 : W.cell? ⟨w.heap.size + 1 + 1 + 1 + 1, 0, none⟩ = some (.int .u8 y0) := by rw [hW]; go_simp
  have ky1 : W.cell? ⟨w.heap.size + 1 + 1 + 1 + 1, 1, none⟩ = some (.int .u8 y1) := by rw [hW]; go_simp
  have ky2 : W.cell? ⟨w.heap.size + 1 + 1 + 1 + 1, 2, none⟩ = some (.int .u8 y2) := by rw [hW]; go_simp
  have ky3 : W.cell? ⟨w.heap.size + 1 + 1 + 1 + 1, 3, none⟩ = some (.int .u8 y3) := by rw [hW]; go_simp
  have kz0 : W.cell? ⟨w.heap.size + 1 + 1 + 1 + 1 + 1, 0, none⟩ = some (.int .u8 z0) := by rw [hW]; go_simp
  have kz1 : W.cell? ⟨w.heap.size + 1 + 1 + 1 + 1 + 1, 1, none⟩ = some (.int .u8 z1) := by rw [hW]; go_simp
  have kz2 : W.cell? ⟨w.heap.size + 1 + 1 + 1 + 1 + 1, 2, none⟩ = some (.int .u8 z2) := by rw [hW]; go_simp
  have kz3 : W.cell? ⟨w.heap.size + 1 + 1 + 1 + 1 + 1, 3, none⟩ = some (.int .u8 z3) := by rw [hW]; go_simp
  have l0 : w.heap.size < W.heap.size := by rw [hsz]; omega
  have l1 : w.heap.size + 1 < W.heap.size := by rw [hsz]; omega
  have l2 : w.heap.size + 1 + 1 < W.heap.size := by rw [hsz]; omega
  have l3 : w.heap.size + 1 + 1 + 1 < W.heap.size := by rw [hsz]; omega
  have l4 : w.heap.size + 1 + 1 + 1 + 1 < W.heap.size := by rw [hsz]; omega
  have l5 : w.heap.size + 1 + 1 + 1 + 1 + 1 < W.heap.size := by rw [hsz]; omega
  clear hsz
  have D1 : Hid _ := C1
  have D2 : Hid _ := C2
  have D3 : Hid _ := C3
  have D4 : Hid _ := C4
  have D5 : Hid _ := C5
  have HZ : Hid _ := hz
  have HLO : Hid _ := hlo
  have HHI : Hid _ := hhi
  clear C1 C2 C3 C4 C5 hz hlo hhi
  go_enter Try.func4, Try.ntmps4
  go_wp2_with fail
  rw [← hW]
  clear hW
  refine (D1.out _).mono ?_
  rintro e w1 ⟨rfl, hb⟩
  have r1 := bcell hb
  have HB1 : Hid (Below W.heap.size W w1) := hb
  clear hb
  go_wp2_with fail
  refine (D2.out _).mono ?_
  rintro e w2 ⟨rfl, hb⟩
  have HB2 : Hid (Below W.heap.size W w2) := HB1.out.trans (hb.mono HB1.out.size)
  have r2 := bcell HB2.out
  clear hb r1
  go_wp2_with fail
  refine (D3.out _).mono ?_
  rintro e w3 ⟨rfl, hb⟩
  have HB3 : Hid (Below W.heap.size W w3) := HB2.out.trans (hb.mono HB2.out.size)
  have r3 := bcell HB3.out
  clear hb r2
  go_wp2_with fail
  refine (D4.out _).mono ?_
  rintro e w4 ⟨rfl, hb⟩
  have HB4 : Hid (Below W.heap.size W w4) := HB3.out.trans (hb.mono HB3.out.size)
  have r4 := bcell HB4.out
  clear hb r3
  have hg := guard22
  cases q1 with
  | true =>
    cases q2 with
    | true =>
      have e0 : ab = 0 := HZ.out.2 ⟨rfl, rfl⟩
      subst e0
      as_aux_lemma =>
      go_wp2_with fail
      all_goals first
        | (exfalso; have := HLO.out; have := HHI.out; omega)
        | (go_ret; exact ⟨rfl, HB.out.trans (HB4.out.mono HB.out.size)⟩)
    | false =>
      have hn : (ab == 0) = false := by rw [beq_eq_false_iff_ne]; intro h; have := (HZ.out.1 h).2; cases this
      as_aux_lemma =>
      have c5 := D5.out rfl
      go_wp2_with fail
      all_goals first
        | (exfalso; have := HLO.out; have := HHI.out; omega)
        | (go_ret; exact ⟨rfl, HB.out.trans (HB4.out.mono HB.out.size)⟩)
        | (refine (c5 _).mono ?_; rintro e w5 ⟨rfl, hb⟩; have HB5 : Hid (Below W.heap.size W w5) := HB4.out.trans (hb.mono HB4.out.size); clear hb; go_wp2_with fail; go_ret; exact ⟨rfl, HB.out.trans (HB5.out.mono HB.out.size)⟩)
  | false =>
    cases q2 with
    | true =>
      have hn : (ab == 0) = false := by rw [beq_eq_false_iff_ne]; intro h; have := (HZ.out.1 h).1; cases this
      as_aux_lemma =>
      go_wp2_with fail
      all_goals first
        | (exfalso; have := HLO.out; have := HHI.out; omega)
        | (go_ret; exact ⟨rfl, HB.out.trans (HB4.out.mono HB.out.size)⟩)
    | false =>
      have hn : (ab == 0) = false := by rw [beq_eq_false_iff_ne]; intro h; have := (HZ.out.1 h).1; cases this
      as_aux_lemma =>
      have c5 := D5.out rfl
      go_wp2_with fail
      all_goals first
        | (exfalso; have := HLO.out; have := HHI.out; omega)
        | (go_ret; exact ⟨rfl, HB.out.trans (HB4.out.mono HB.out.size)⟩)
        | (refine (c5 _).mono ?_; rintro e w5 ⟨rfl, hb⟩; have HB5 : Hid (Below W.heap.size W w5) := HB4.out.trans (hb.mono HB4.out.size); clear hb; go_wp2_with fail; go_ret; exact ⟨rfl, HB.out.trans (HB5.out.mono HB.out.size)⟩)

end Go.Proofs.Qxb6607687a
