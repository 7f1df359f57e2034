/-
  build where there are tombstones.
-/
import Derived.Test.Qxb6605926aBuild
namespace Go.Proofs.Qxb6605926a
open Go.RowKit

theorem bcell {W w1 : World} (hb : Below W.heap.size W w1) : (∀ b o, b < W.heap.size → w1.cell? ⟨b, o, none⟩ = W.cell? ⟨b, o, none⟩) ∧ (∀ b o, b < W.heap.size → w1.frozen? ⟨b, o, none⟩ = W.frozen? ⟨b, o, none⟩) :=
  ⟨fun b o h => hb.cell (p := ⟨b, o, none⟩) h, fun b o h => hb.frozen (p := ⟨b, o, none⟩) h⟩

theorem made_arr {w : World} {g : Nat} {T : List Ch} (h : Made w g T.length T.length T) : Arr w g T := by
  obtain ⟨c, hc, _, hx⟩ := h
  intro i hi
  have hr := fun j => cell_of_row w g j c 56 (0, 0) hc
  obtain ⟨h0, h1, h2, h3⟩ := hx i hi
  exact ⟨(hr _).trans h0, (hr _).trans h1, (hr _).trans h2, (hr _).trans h3⟩

/-- What is left behind the last store. -/
theorem build_end {w w1 w2 w3 : World} {T : List Ch} (v : Value) {blk : Obj} {p t : Nat} (hB1 : Below w.heap.size w w1) (hz : w.heap.size + 1 < w1.heap.size) (hM : Made w2 w1.heap.size T.length T.length T) (hb2 : Below w1.heap.size w1 w2)
    (hb3 : Below w2.heap.size w2 w3) (hp : w3.cell? ⟨p, 1, none⟩ = some (.pointer (some ⟨t, 0, none⟩))) (ht : w3.heap[t]? = some blk) (_hpw : w2.heap.size ≤ p) (htw : w2.heap.size ≤ t) :
    (w3.setCell ⟨w.heap.size + 1, 0, none⟩ v).cell? ⟨p, 1, none⟩ = some (.pointer (some ⟨t, 0, none⟩)) ∧ (w3.setCell ⟨w.heap.size + 1, 0, none⟩ v).heap[t]? = some blk ∧ Arr (w3.setCell ⟨w.heap.size + 1, 0, none⟩ v) w1.heap.size T ∧ Below w.heap.size w (w3.setCell ⟨w.heap.size + 1, 0, none⟩ v) := by
  have hA := (made_arr hM).kept hb3
  have s2 := hb2.size
  refine ⟨?_, ?_, ?_, ?_⟩
  · rw [World.cell?_setCell_other _ _ _ _ (by simp <;> omega)]; exact hp
  · rw [heap_setCell_other _ _ _ _ (by simp; omega)]; exact ht
  · intro i hi
    obtain ⟨k0, k1, k2, k3⟩ := hA i hi
    refine ⟨?_, ?_, ?_, ?_⟩
    · rw [World.cell?_setCell_other _ _ _ _ (by simp <;> omega)]; exact k0
    · rw [World.cell?_setCell_other _ _ _ _ (by simp <;> omega)]; exact k1
    · rw [World.cell?_setCell_other _ _ _ _ (by simp <;> omega)]; exact k2
    · rw [World.cell?_setCell_other _ _ _ _ (by simp <;> omega)]; exact k3
  · exact (below_trans' (below_trans' hB1 hb2) hb3).setCell (by simp) _

set_option maxHeartbeats 4000000 in
theorem build_T (vl : Value) (b off tc : Nat) (T : List Ch) (x0 x1 x2 x3 x4 x5 x6 x7 x8 x9 x10 x11 x12 x13 x14 x15 : Int) (w : World) (h0 : 0 < T.length)
    (hl : ∀ wr, Below w.heap.size w wr → Calls Try.prog 22 #[vl] wr fun e w' => ∃ a n c, e = .returned (.slice a n c) ∧ Below wr.heap.size wr w')
    (ht : ∀ wr, Below w.heap.size w wr → Calls Try.prog 22 #[.slice (some ⟨b, off, none⟩) T.length tc] wr fun e w' => e = .returned (.slice (some ⟨wr.heap.size, 0, none⟩) T.length T.length) ∧ Made w' wr.heap.size T.length T.length T ∧ Below wr.heap.size wr w') :
    Calls Try.prog 11 #[vl, .slice (some ⟨b, off, none⟩) T.length tc, .agg #[.int .u8 x0, .int .u8 x1, .int .u8 x2, .int .u8 x3, .int .u8 x4, .int .u8 x5, .int .u8 x6, .int .u8 x7, .int .u8 x8, .int .u8 x9, .int .u8 x10, .int .u8 x11, .int .u8 x12, .int .u8 x13, .int .u8 x14, .int .u8 x15]] w fun e w' => ∃ p t a, e = .returned (.agg #[.pointer (some ⟨p, 0, none⟩)]) ∧ w'.cell? ⟨p, 1, none⟩ = some (.pointer (some ⟨t, 0, none⟩)) ∧
      w'.heap[t]? = some (.cells #[.slice (some ⟨a, 0, none⟩) T.length T.length, .int .u8 x0, .int .u8 x1, .int .u8 x2, .int .u8 x3, .int .u8 x4, .int .u8 x5, .int .u8 x6, .int .u8 x7, .int .u8 x8, .int .u8 x9, .int .u8 x10, .int .u8 x11, .int .u8 x12, .int .u8 x13, .int .u8 x14, .int .u8 x15] 59 (0, 0)) ∧ Arr w' a T ∧ Below w.heap.size w w' := by
  have hn0 : ((T.length : Int) == 0) = false := by rw [beq_eq_false_iff_ne]; omega
  have HT : Hid _ := ht
  have HL : Hid _ := hl
  clear ht hl
  go_enter Try.func11, Try.ntmps11
  go_wp2_with fail
  go_region_with (first
    | (go_at_call_of 22 vl; refine (HL.out _ ?_).mono ?_; exact (((Below.refl _ _).alloc (Nat.le_refl _) _).alloc (by simp) _).drew; rintro e w1 ⟨a1, n1, c1, rfl, hb1⟩; obtain ⟨rc1, rf1⟩ := bcell hb1; have hz1 : w.heap.size + 1 < w1.heap.size := (by have := hb1.size; simp at this; omega); have hz1' : w.heap.size < w1.heap.size := (by omega); have HB1 : Hid (Below w.heap.size w w1) := below_trans' (((Below.refl _ _).alloc (Nat.le_refl _) _).alloc (by simp) _).drew hb1; clear hb1)
    | (go_at_call_of 22 off; refine (HT.out _ HB1.out).mono ?_; rintro e w2 ⟨rfl, hM, hb2⟩; obtain ⟨rc2, rf2⟩ := bcell hb2; have hz2 : w.heap.size + 1 < w2.heap.size := (by have := hb2.size; omega); have hz2' : w.heap.size < w2.heap.size := (by omega); have HB2 : Hid (Below w1.heap.size w1 w2) := hb2; have HM : Hid _ := hM; clear hb2 hM)
    | (go_at_call 23; refine (newConf_any a1 n1 c1 w1.heap.size T.length T.length x0 x1 x2 x3 x4 x5 x6 x7 x8 x9 x10 x11 x12 x13 x14 x15 _).mono ?_; rintro e w3 ⟨rfl, hp, hq, hb3⟩; obtain ⟨rc3, rf3⟩ := bcell hb3; have HB3 : Hid (Below w2.heap.size w2 w3) := hb3; have HP : Hid _ := hp; have HQ : Hid _ := hq; clear hb3 hp hq))
  all_goals
    have k1 : w3.cell? ⟨w.heap.size + 1, 0, none⟩ = some (.pointer none) := by
      rw [rc3 _ _ hz2, rc2 _ _ hz1, rc1 _ _ (by simp)]
      go_simp
    clear rc1 rc2 rc3 rf1 rf2 rf3
    go_wp2
    refine bodyPost_ret (v := .agg #[.pointer (some ⟨w2.heap.size + 1 + 1 + 1, 0, none⟩)]) (by simp [results, Try.results11, go_sem, k1]) rfl ?_
    have hend := build_end (T := T) (.pointer (some ⟨w2.heap.size + 1 + 1 + 1, 0, none⟩)) HB1.out hz1 HM.out HB2.out HB3.out HP.out HQ.out (by omega) (by omega)
    exact ⟨_, _, _, rfl, hend⟩

end Go.Proofs.Qxb6605926a
