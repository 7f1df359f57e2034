/-
  toChanges, ZZnewConfiguration, ZZnewConfigurationLive.
-/
import Derived.Test.Qxb6605926aFind
import Derived.Lib.SliceRun
import Derived.Laws.MakeOwn
import Derived.BigRegion
namespace Go.Proofs.Qxb6605926a
open Go.RowKit

theorem toChanges_nil (w : World) : Calls Try.prog 22 #[.slice none 0 0] w fun e w' => e = .returned (.slice none 0 0) ∧ w' = w := by
  have he := fun w => Lib.run_eql_slice_nil (P := Try.prog) w 22 42 none 0 0 0 0 Try.underlying22
  go_enter Try.func22, Try.ntmps22
  go_wp2
  go_ret
  exact ⟨rfl, rfl⟩

/-- What the made array holds behind k rounds. -/
def Made (w : World) (g n k : Nat) (T : List Ch) : Prop :=
  ∃ c : Array Value, w.heap[g]? = some (.cells c 56 (0, 0)) ∧ c.size = n * 4 ∧ ∀ i, i < k → c[i * 4]? = some (.string (T.getD i dC).op) ∧ c[i * 4 + 1]? = some (.string (T.getD i dC).id) ∧ c[i * 4 + 2]? = some (.string (T.getD i dC).addr) ∧ c[i * 4 + 3]? = some (.int .u64 (T.getD i dC).inc)

theorem made_cell {w : World} {g n k : Nat} {T : List Ch} (h : Made w g n k T) {j : Nat} (hj : j < n * 4) : ∃ v, w.cell? ⟨g, j, none⟩ = some v := by
  obtain ⟨c, hc, hs, _⟩ := h
  exact ⟨c[j]'(by omega), by rw [cell_of_row w g j c 56 (0, 0) hc]; exact Array.getElem?_eq_getElem (by omega)⟩

theorem made_free {w : World} {g n k : Nat} {T : List Ch} (h : Made w g n k T) (j : Nat) : w.frozen? ⟨g, j, none⟩ = false := by
  obtain ⟨c, hc, _⟩ := h
  exact frozen_of_row w g j c 56 hc

theorem made_set {w : World} {g n k : Nat} {T : List Ch} (h : Made w g n k T) (hk : k < n) {d : Ch} (hd : T.getD k dC = d) :
    Made ((((w.setCell ⟨g, k * 4, none⟩ (.string d.op)).setCell ⟨g, k * 4 + 1, none⟩ (.string d.id)).setCell ⟨g, k * 4 + 2, none⟩ (.string d.addr)).setCell ⟨g, k * 4 + 3, none⟩ (.int .u64 d.inc)).drew g n (k + 1) T := by
  obtain ⟨c, hc, hs, hx⟩ := h
  refine ⟨_, heap_setCell_same _ _ _ _ _ _ (heap_setCell_same _ _ _ _ _ _ (heap_setCell_same _ _ _ _ _ _ (heap_setCell_same _ _ _ _ _ _ hc))), by simp [hs], fun i hi => ?_⟩
  by_cases e : i = k
  · subst e
    rw [hd]
    refine ⟨?_, ?_, ?_, ?_⟩
    · rw [Array.getElem?_setIfInBounds_ne (by omega), Array.getElem?_setIfInBounds_ne (by omega), Array.getElem?_setIfInBounds_ne (by omega), Array.getElem?_setIfInBounds_self_of_lt (by omega)]
    · rw [Array.getElem?_setIfInBounds_ne (by omega), Array.getElem?_setIfInBounds_ne (by omega), Array.getElem?_setIfInBounds_self_of_lt (by simp; omega)]
    · rw [Array.getElem?_setIfInBounds_ne (by omega), Array.getElem?_setIfInBounds_self_of_lt (by simp; omega)]
    · rw [Array.getElem?_setIfInBounds_self_of_lt (by simp; omega)]
  · obtain ⟨h0, h1, h2, h3⟩ := hx i (by omega)
    refine ⟨?_, ?_, ?_, ?_⟩
    · rw [Array.getElem?_setIfInBounds_ne (by omega), Array.getElem?_setIfInBounds_ne (by omega), Array.getElem?_setIfInBounds_ne (by omega), Array.getElem?_setIfInBounds_ne (by omega)]; exact h0
    · rw [Array.getElem?_setIfInBounds_ne (by omega), Array.getElem?_setIfInBounds_ne (by omega), Array.getElem?_setIfInBounds_ne (by omega), Array.getElem?_setIfInBounds_ne (by omega)]; exact h1
    · rw [Array.getElem?_setIfInBounds_ne (by omega), Array.getElem?_setIfInBounds_ne (by omega), Array.getElem?_setIfInBounds_ne (by omega), Array.getElem?_setIfInBounds_ne (by omega)]; exact h2
    · rw [Array.getElem?_setIfInBounds_ne (by omega), Array.getElem?_setIfInBounds_ne (by omega), Array.getElem?_setIfInBounds_ne (by omega), Array.getElem?_setIfInBounds_ne (by omega)]; exact h3

theorem below_set4 {w wr : World} {g : Nat} (h : Below w.heap.size w wr) (hg : w.heap.size ≤ g) (j0 j1 j2 j3 : Nat) (x0 x1 x2 x3 : Value) :
    Below w.heap.size w ((((wr.setCell ⟨g, j0, none⟩ x0).setCell ⟨g, j1, none⟩ x1).setCell ⟨g, j2, none⟩ x2).setCell ⟨g, j3, none⟩ x3).drew :=
  ((((h.setCell hg _).setCell hg _).setCell hg _).setCell hg _).drew

/-- What the slice argument holds. -/
def ArrS (w : World) (b off : Nat) (T : List Ch) : Prop :=
  ∀ i, i < T.length → w.cell? ⟨b, off + i * 4, none⟩ = some (.string (T.getD i dC).op) ∧ w.cell? ⟨b, off + i * 4 + 1, none⟩ = some (.string (T.getD i dC).id) ∧ w.cell? ⟨b, off + i * 4 + 2, none⟩ = some (.string (T.getD i dC).addr) ∧ w.cell? ⟨b, off + i * 4 + 3, none⟩ = some (.int .u64 (T.getD i dC).inc)

theorem ArrS.kept {w w' : World} {b off : Nat} {T : List Ch} (h : ArrS w b off T) (hb : Below w.heap.size w w') : ArrS w' b off T := fun i hi =>
  let ⟨h0, h1, h2, h3⟩ := h i hi
  ⟨cell_kept hb h0, cell_kept hb h1, cell_kept hb h2, cell_kept hb h3⟩

theorem info56 : (Try.prog.info? 56).map (fun i => (i.zero, i.size, i.bytes)) = some (some (.agg #[.string ⟨#[]⟩, .string ⟨#[]⟩, .string ⟨#[]⟩, .int .u64 0]), 4, 56) := by kernel_rfl

theorem make56 (n : Nat) (hn : n ≤ 65536) (w : World) : (Instr.makeSlice 46 (.int .i64 (n : Int)) (.int .i64 (n : Int))).run Try.prog w =
    .ok (.slice (some ⟨w.heap.size, 0, none⟩) n n) (w.alloc (.cells (madeCells #[.string ⟨#[]⟩, .string ⟨#[]⟩, .string ⟨#[]⟩, .int .u64 0] (n * 4)) 56)) := by
  obtain ⟨i, hi, hzz⟩ := Option.map_eq_some_iff.1 info56
  simp only [Prod.mk.injEq] at hzz
  obtain ⟨hz, hs, hb⟩ := hzz
  have h := run_make (P := Try.prog) w 46 56 i _ Try.underlying46 hi hz .i64 .i64 (n : Int) (n : Int) (by omega) (by omega) (by rw [hb]; omega) (by omega)
  rw [hs] at h
  have ec : (Value.agg #[Value.string ⟨#[]⟩, .string ⟨#[]⟩, .string ⟨#[]⟩, .int .u64 0]).cells = #[Value.string ⟨#[]⟩, .string ⟨#[]⟩, .string ⟨#[]⟩, .int .u64 0] := rfl
  rw [ec] at h
  simpa using h

set_option maxHeartbeats 2000000 in
theorem toChanges_some (b off cap : Nat) (T : List Ch) (w : World) (hn : T.length ≤ 65536) (hA : ArrS w b off T) : Calls Try.prog 22 #[.slice (some ⟨b, off, none⟩) T.length cap] w fun e w' =>
    e = .returned (.slice (some ⟨w.heap.size, 0, none⟩) T.length T.length) ∧ Made w' w.heap.size T.length T.length T ∧ Below w.heap.size w w' := by
  have he := fun w => Lib.run_eql_slice_nil (P := Try.prog) w 22 42 (some ⟨b, off, none⟩) T.length cap 0 0 Try.underlying22
  have hm := make56 T.length hn
  have HA : Hid (ArrS w b off T) := hA
  clear hA
  go_enter Try.func22, Try.ntmps22
  go_wp2
  go_loopw [4] (fun i wr => ∃ k : Nat, k ≤ T.length ∧ i = .int .i64 k ∧ Hid (Made wr w.heap.size T.length k T) ∧ Hid (Below w.heap.size w wr)) (fun i _ => T.length - (intOf i).toNat)
  case atStart => exact ⟨0, by omega, rfl, ⟨_, heap_alloc_new _ _, size_madeCells _ _, fun i hi => by omega⟩, (Below.refl _ _).alloc (Nat.le_refl _) _⟩
  case round =>
    obtain ⟨k, hk, rfl, HM, HB⟩ := hrel
    by_cases hlt : k < T.length
    · obtain ⟨z0, z1, z2, z3⟩ := HA.out.kept HB.out k hlt
      obtain ⟨v0, y0⟩ := made_cell HM.out (j := k * 4) (by omega)
      obtain ⟨v1, y1⟩ := made_cell HM.out (j := k * 4 + 1) (by omega)
      obtain ⟨v2, y2⟩ := made_cell HM.out (j := k * 4 + 2) (by omega)
      obtain ⟨v3, y3⟩ := made_cell HM.out (j := k * 4 + 3) (by omega)
      have f0 := made_free HM.out (k * 4)
      have f1 := made_free HM.out (k * 4 + 1)
      have f2 := made_free HM.out (k * 4 + 2)
      have f3 := made_free HM.out (k * 4 + 3)
      have hbw : b < w.heap.size := by
        obtain ⟨q, _⟩ := HA.out k hlt
        exact block_lt_of_cell q
      have hne : b ≠ w.heap.size := by omega
      go_wp2
      go_region
      go_wp2
      go_roundw
      case rel =>
        have hd : T.getD k dC = T[k] := by simp [List.getD, hlt]
        exact ⟨k + 1, by omega, by go_num, made_set HM.out hlt hd, below_set4 HB.out (Nat.le_refl _) _ _ _ _ _ _ _ _⟩
      case measure => simp [intOf]; omega
    · have e : k = T.length := by omega
      subst e
      go_wp2
      go_ret
      exact ⟨rfl, HM.out, HB.out⟩

end Go.Proofs.Qxb6605926a
