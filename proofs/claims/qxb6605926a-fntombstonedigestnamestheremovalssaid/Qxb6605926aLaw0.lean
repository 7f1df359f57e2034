/-
  THE WALK OF FnTombstoneDigestNamesTheRemovals WHERE THERE IS NO TOMBSTONE.
-/
import Derived.Test.Qxb6605926aLawT
namespace Go.Proofs.Qxb6605926a
open Go.RowKit

set_option maxRecDepth 100000 in
set_option maxHeartbeats 4000000 in
theorem law_00 (la ta : Option Addr) (lc tc : Nat) (x0 x1 x2 x3 x4 x5 x6 x7 x8 x9 x10 x11 x12 x13 x14 x15 : Int) (w : World) :
    Calls Try.prog 5 #[.slice la 0 lc, .slice ta 0 tc, .agg #[.int .u8 x0, .int .u8 x1, .int .u8 x2, .int .u8 x3, .int .u8 x4, .int .u8 x5, .int .u8 x6, .int .u8 x7, .int .u8 x8, .int .u8 x9, .int .u8 x10, .int .u8 x11, .int .u8 x12, .int .u8 x13, .int .u8 x14, .int .u8 x15]] w fun e w' => e = .returned (.bool true) ∧ Below w.heap.size w w' := by
  obtain ⟨W0, hW0⟩ : ∃ W0, W0 = w.alloc (.cells #[.int .u8 x0, .int .u8 x1, .int .u8 x2, .int .u8 x3, .int .u8 x4, .int .u8 x5, .int .u8 x6, .int .u8 x7, .int .u8 x8, .int .u8 x9, .int .u8 x10, .int .u8 x11, .int .u8 x12, .int .u8 x13, .int .u8 x14, .int .u8 x15] 23) := ⟨_, rfl⟩
  have hb0 : Below w.heap.size w W0 := by rw [hW0]; exact (Below.refl _ _).alloc (Nat.le_refl _) _
  have HB0 : Hid (Below w.heap.size w W0) := hb0
  have HBOX : Hid (W0.heap[w.heap.size]? = some (.cells #[.int .u8 x0, .int .u8 x1, .int .u8 x2, .int .u8 x3, .int .u8 x4, .int .u8 x5, .int .u8 x6, .int .u8 x7, .int .u8 x8, .int .u8 x9, .int .u8 x10, .int .u8 x11, .int .u8 x12, .int .u8 x13, .int .u8 x14, .int .u8 x15] 23 (0, 0))) := by rw [hW0]; exact heap_alloc_new _ _
  have HST : ∀ wr, Hid (SlA wr ta []) := fun _ h => absurd h (by simp)
  clear hb0
  have c16 : ∀ wr, Below W0.heap.size W0 wr → Calls Try.prog 16 #[.slice la 0 lc, .slice ta 0 tc, .agg #[.int .u8 x0, .int .u8 x1, .int .u8 x2, .int .u8 x3, .int .u8 x4, .int .u8 x5, .int .u8 x6, .int .u8 x7, .int .u8 x8, .int .u8 x9, .int .u8 x10, .int .u8 x11, .int .u8 x12, .int .u8 x13, .int .u8 x14, .int .u8 x15]] wr fun e w' => RetX e ∧ Below wr.heap.size wr w' := fun wr _ =>
    zzBytes_any la ta lc tc [] [] x0 x1 x2 x3 x4 x5 x6 x7 x8 x9 x10 x11 x12 x13 x14 x15 wr (by simp) (by simp) (fun h => absurd h (by simp)) (HST wr).out
  have c8a : ∀ wr, Below W0.heap.size W0 wr → Calls Try.prog 8 #[.slice la 0 lc] wr fun e w' => RetI e ∧ w' = wr := fun wr _ => chgBytes_any la lc [] wr (by simp) (fun h => absurd h (by simp))
  have c8b : ∀ wr, Calls Try.prog 8 #[.slice ta 0 tc] wr fun e w' => RetI e ∧ w' = wr := fun wr => chgBytes_any ta tc [] wr (by simp) (HST wr).out
  have c9 : ∀ wr, Below W0.heap.size W0 wr → ([] : List Ch).length ≤ 65536 → Calls Try.prog 9 #[.slice la 0 lc, .slice ta 0 tc] wr fun e w' => RetW e (WFc [] []) ∧ Below wr.heap.size wr w' := fun wr _ hl =>
    wellFormed_any la ta lc tc [] [] wr hl (by simp) (fun h => absurd h (by simp)) (HST wr).out
  have C16 : Hid _ := c16
  have C8a : Hid _ := c8a
  have C8b : Hid _ := c8b
  have C9 : Hid _ := c9
  clear c16 c8a c8b c9
  go_enter Try.func5, Try.ntmps5
  go_wp2_with fail
  rw [← hW0]
  clear hW0
  refine (C16.out _ (Below.refl _ _)).mono ?_
  rintro e w1 ⟨⟨r1, rfl⟩, hb1⟩
  have HB1 : Hid (Below W0.heap.size W0 w1) := hb1
  clear hb1
  cases r1 with
  | false =>
    go_wp2_with fail
    go_ret
    exact ⟨rfl, below_trans' HB0.out HB1.out⟩
  | true =>
    go_wp2_with fail
    refine (C8a.out _ HB1.out).mono ?_
    rintro e w' ⟨⟨v1, rfl⟩, hw⟩
    rw [hw]
    clear hw w'
    go_wp2_with fail
    refine (C8b.out _).mono ?_
    rintro e w' ⟨⟨v2, rfl⟩, hw⟩
    rw [hw]
    clear hw w'
    go_wp2_with fail
    refine (addLen_any _ _ _).mono ?_
    rintro e w' ⟨⟨v3, rfl⟩, hw⟩
    rw [hw]
    clear hw w'
    go_wp2_with fail
    · go_ret
      exact ⟨rfl, below_trans' HB0.out HB1.out⟩
    refine (C9.out _ HB1.out (by simp)).mono ?_
    rintro e w2 ⟨⟨r2, rfl, _⟩, hb2⟩
    have HB2 : Hid (Below W0.heap.size W0 w2) := below_trans' HB1.out hb2
    clear hb2 HB1
    cases r2 with
    | false =>
      go_wp2_with fail
      go_ret
      exact ⟨rfl, below_trans' HB0.out HB2.out⟩
    | true =>
    have hq := fun j => cell_of_row w2 w.heap.size j _ 23 (0, 0) (block_kept HB2.out HBOX.out)
    have q0 : w2.cell? ⟨w.heap.size, 0, none⟩ = some (.int .u8 x0) := by rw [hq]; rfl
    have q1 : w2.cell? ⟨w.heap.size, 1, none⟩ = some (.int .u8 x1) := by rw [hq]; rfl
    have q2 : w2.cell? ⟨w.heap.size, 2, none⟩ = some (.int .u8 x2) := by rw [hq]; rfl
    have q3 : w2.cell? ⟨w.heap.size, 3, none⟩ = some (.int .u8 x3) := by rw [hq]; rfl
    have q4 : w2.cell? ⟨w.heap.size, 4, none⟩ = some (.int .u8 x4) := by rw [hq]; rfl
    have q5 : w2.cell? ⟨w.heap.size, 5, none⟩ = some (.int .u8 x5) := by rw [hq]; rfl
    have q6 : w2.cell? ⟨w.heap.size, 6, none⟩ = some (.int .u8 x6) := by rw [hq]; rfl
    have q7 : w2.cell? ⟨w.heap.size, 7, none⟩ = some (.int .u8 x7) := by rw [hq]; rfl
    have q8 : w2.cell? ⟨w.heap.size, 8, none⟩ = some (.int .u8 x8) := by rw [hq]; rfl
    have q9 : w2.cell? ⟨w.heap.size, 9, none⟩ = some (.int .u8 x9) := by rw [hq]; rfl
    have q10 : w2.cell? ⟨w.heap.size, 10, none⟩ = some (.int .u8 x10) := by rw [hq]; rfl
    have q11 : w2.cell? ⟨w.heap.size, 11, none⟩ = some (.int .u8 x11) := by rw [hq]; rfl
    have q12 : w2.cell? ⟨w.heap.size, 12, none⟩ = some (.int .u8 x12) := by rw [hq]; rfl
    have q13 : w2.cell? ⟨w.heap.size, 13, none⟩ = some (.int .u8 x13) := by rw [hq]; rfl
    have q14 : w2.cell? ⟨w.heap.size, 14, none⟩ = some (.int .u8 x14) := by rw [hq]; rfl
    have q15 : w2.cell? ⟨w.heap.size, 15, none⟩ = some (.int .u8 x15) := by rw [hq]; rfl
    clear hq
    as_aux_lemma =>
    go_wp2_with fail
    refine (build_00 la ta lc tc x0 x1 x2 x3 x4 x5 x6 x7 x8 x9 x10 x11 x12 x13 x14 x15 w2).mono ?_
    rintro e w3 ⟨rfl, hb3⟩
    have HB3 : Hid (Below W0.heap.size W0 w3) := below_trans' HB2.out hb3
    clear hb3 q0 q1 q2 q3 q4 q5 q6 q7 q8 q9 q10 q11 q12 q13 q14 q15
    have hdig := digest_none0 (w3.alloc (.cells #[.pointer none] 31))
    as_aux_lemma =>
    go_wp2_with fail
    refine hdig.mono ?_
    rintro e w4 ⟨rfl, hb4⟩
    have HB4 : Hid (Below w3.heap.size w3 w4) := below_trans' ((Below.refl _ _).alloc (Nat.le_refl _) _) hb4
    have HC7 : Hid (w4.cell? ⟨w3.heap.size, 0, none⟩ = some (.pointer none)) := cell_kept hb4 (by go_simp)
    clear hb4 hdig
    have hg := guard36
    have hneq := neq36_zeros
    unfold zeros16 at hneq ⊢
    as_aux_lemma =>
    go_wp2_with fail
    refine wp_loop_rounds 1 ?_
    rw [rounds_succ]
    go_wp2_with fail
    refine wp_loop_rounds 1 ?_
    rw [rounds_succ]
    go_wp2_with fail
    go_ret
    exact ⟨rfl, ((below_trans' (below_trans' HB0.out HB3.out) HB4.out).alloc ((below_trans' (below_trans' HB0.out HB3.out) HB4.out).size) _).alloc (by have := (below_trans' (below_trans' HB0.out HB3.out) HB4.out).size; simp; omega) _⟩

end Go.Proofs.Qxb6605926a
