/-
  find$1, sort.Search, find.
-/
import Derived.Test.Qxb6605926aCmp
import Derived.Deep.RegionWith
import Derived.BigQuiet
import Derived.Outline
namespace Go.Proofs.Qxb6605926a
open Go.RowKit

set_option maxHeartbeats 1000000 in
theorem find1_any (i n cap bs bc a : Nat) (c d : Ch) (w : World) (hi : i < n) (_hn : n ≤ 65536) (h0 : w.cell? ⟨bs, 0, none⟩ = some (.slice (some ⟨a, 0, none⟩) n cap))
    (k0 : w.cell? ⟨a, i * 4, none⟩ = some (.string c.op)) (k1 : w.cell? ⟨a, i * 4 + 1, none⟩ = some (.string c.id)) (k2 : w.cell? ⟨a, i * 4 + 2, none⟩ = some (.string c.addr)) (k3 : w.cell? ⟨a, i * 4 + 3, none⟩ = some (.int .u64 c.inc))
    (c0 : w.cell? ⟨bc, 0, none⟩ = some (.string d.op)) (c1 : w.cell? ⟨bc, 1, none⟩ = some (.string d.id)) (c2 : w.cell? ⟨bc, 2, none⟩ = some (.string d.addr)) (c3 : w.cell? ⟨bc, 3, none⟩ = some (.int .u64 d.inc)) :
    Calls Try.prog 32 #[.int .i64 i, .pointer (some ⟨bs, 0, none⟩), .pointer (some ⟨bc, 0, none⟩)] w fun e w' => ∃ b : Bool, e = .returned (.bool b) ∧ (b = true ↔ ¬ ltC c d) ∧ Below w.heap.size w w' := by
  go_enter Try.func32, Try.ntmps32
  go_wp2
  go_region_with (go_at_call 33; refine (compare_any c d _).mono ?_; rintro e w' ⟨v, rfl, hv, hb⟩)
  all_goals
    go_wp2
    go_ret
    refine ⟨_, rfl, ?_, ?_⟩
    · simpa using (by assumption : 0 ≤ v ↔ ¬ ltC c d)
    · exact (Below.drew (Below.refl _ _)).trans (by assumption)

/-- What the search is asked over. -/
def Arr (w : World) (a : Nat) (T : List Ch) : Prop :=
  ∀ i, i < T.length → w.cell? ⟨a, i * 4, none⟩ = some (.string (T.getD i dC).op) ∧ w.cell? ⟨a, i * 4 + 1, none⟩ = some (.string (T.getD i dC).id) ∧ w.cell? ⟨a, i * 4 + 2, none⟩ = some (.string (T.getD i dC).addr) ∧ w.cell? ⟨a, i * 4 + 3, none⟩ = some (.int .u64 (T.getD i dC).inc)

def Box (w : World) (bc : Nat) (d : Ch) : Prop :=
  w.cell? ⟨bc, 0, none⟩ = some (.string d.op) ∧ w.cell? ⟨bc, 1, none⟩ = some (.string d.id) ∧ w.cell? ⟨bc, 2, none⟩ = some (.string d.addr) ∧ w.cell? ⟨bc, 3, none⟩ = some (.int .u64 d.inc)

theorem cell_kept {w w' : World} (h : Below w.heap.size w w') {p : Addr} {v : Value} (hc : w.cell? p = some v) : w'.cell? p = some v := by
  rw [h.cell (block_lt_of_cell hc)]; exact hc

theorem Arr.kept {w w' : World} {a : Nat} {T : List Ch} (h : Arr w a T) (hb : Below w.heap.size w w') : Arr w' a T := fun i hi =>
  let ⟨h0, h1, h2, h3⟩ := h i hi
  ⟨cell_kept hb h0, cell_kept hb h1, cell_kept hb h2, cell_kept hb h3⟩

theorem Box.kept {w w' : World} {bc : Nat} {d : Ch} (h : Box w bc d) (hb : Below w.heap.size w w') : Box w' bc d :=
  ⟨cell_kept hb h.1, cell_kept hb h.2.1, cell_kept hb h.2.2.1, cell_kept hb h.2.2.2⟩

theorem below_trans' {w w1 w2 : World} (h : Below w.heap.size w w1) (k : Below w1.heap.size w1 w2) : Below w.heap.size w w2 := h.trans (k.mono h.size)

set_option maxHeartbeats 1000000 in
theorem search_any (cap bs bc a : Nat) (T : List Ch) (d : Ch) (w : World) (hn : T.length ≤ 65536) (hs : SortedC T) (h0 : w.cell? ⟨bs, 0, none⟩ = some (.slice (some ⟨a, 0, none⟩) T.length cap)) (hA : Arr w a T) (hB : Box w bc d) :
    Calls Try.prog 31 #[.int .i64 T.length, .func (.func 32) #[] #[.pointer (some ⟨bs, 0, none⟩), .pointer (some ⟨bc, 0, none⟩)]] w fun e w' =>
      ∃ i : Nat, e = .returned (.int .i64 i) ∧ i ≤ T.length ∧ (∀ t, t < i → ltC (T.getD t dC) d) ∧ (∀ t, i ≤ t → t < T.length → ¬ ltC (T.getD t dC) d) ∧ Below w.heap.size w w' := by
  obtain ⟨n, hn'⟩ : ∃ n, n = T.length := ⟨_, rfl⟩
  have HS : Hid (SortedC T) := hs
  have HA : Hid (Arr w a T) := hA
  have HB : Hid (Box w bc d) := hB
  have H0 : Hid (w.cell? ⟨bs, 0, none⟩ = some (.slice (some ⟨a, 0, none⟩) n cap)) := by rw [hn']; exact h0
  rw [← hn'] at hn ⊢
  have HN : Hid (n = T.length) := hn'
  clear hs hA hB h0 hn'
  go_enter Try.func31, Try.ntmps31
  go_wp2
  go_loopw [5, 6] (fun s5 s6 wr => ∃ lo hi : Nat, s5 = .int .i64 lo ∧ s6 = .int .i64 hi ∧ lo ≤ hi ∧ hi ≤ n ∧ Hid (Below w.heap.size w wr) ∧ Hid ((∀ t, t < lo → ltC (T.getD t dC) d) ∧ (∀ t, hi ≤ t → t < n → ¬ ltC (T.getD t dC) d))) (fun s5 s6 _ => (intOf s6 - intOf s5).toNat)
  case atStart => exact ⟨0, n, rfl, rfl, by omega, by omega, Below.refl _ _, ⟨fun t ht => by omega, fun t h1 h2 => by omega⟩⟩
  case round =>
    obtain ⟨lo, hi, rfl, rfl, hlh, hin, hbw, I⟩ := hrel
    by_cases hlt : lo < hi
    · obtain ⟨m, hm⟩ : ∃ m : Nat, m = (lo + hi) / 2 := ⟨_, rfl⟩
      have hmn : m < T.length := by have := HN.out; omega
      obtain ⟨k0, k1, k2, k3⟩ := (HA.out.kept hbw.out) m hmn
      obtain ⟨c0, c1, c2, c3⟩ := HB.out.kept hbw.out
      have hc := find1_any m n cap bs bc a (T.getD m dC) d wr (by have := HN.out; omega) hn (cell_kept hbw.out H0.out) k0 k1 k2 k3 c0 c1 c2 c3
      clear k0 k1 k2 k3 c0 c1 c2 c3 hmn
      rw [hm, show (((lo + hi) / 2 : Nat) : Int) = ((lo : Int) + (hi : Int)) / 2 by omega] at hc
      have HM : Hid (m = (lo + hi) / 2) := hm
      clear hm
      go_wp2_with (go_at_call 32; refine hc.mono ?_; rintro e w1 ⟨b, rfl, hv, hb1⟩)
      · have hbf : b = false := by simpa using (by assumption : (!b) = true)
        have hml : ltC (T.getD m dC) d := by
          have := HM.out
          rw [← this] at hv
          exact Classical.byContradiction fun k => by simp [hv.2 k] at hbf
        go_roundw
        case rel =>
          have hm := HM.out
          have hN := HN.out
          refine ⟨m + 1, hi, by go_num, rfl, by omega, hin, below_trans' hbw.out hb1, ⟨fun t ht => ?_, I.out.2⟩⟩
          exact Classical.byContradiction fun k => sorted_mono HS.out d (i := t) (j := m) (by omega) (by omega) k hml
        case measure => have hm := HM.out; simp [intOf]; omega
      · have hbt : b = true := by simpa using (by assumption : (!b) = false)
        have hml : ¬ ltC (T.getD m dC) d := by
          have := HM.out
          rw [← this] at hv
          exact hv.1 hbt
        go_roundw
        case rel =>
          have hm := HM.out
          have hN := HN.out
          refine ⟨lo, m, rfl, by go_num, by omega, by omega, below_trans' hbw.out hb1, ⟨I.out.1, fun t h1 h2 => ?_⟩⟩
          exact sorted_mono HS.out d (i := m) (j := t) (by omega) (by omega) hml
        case measure => have hm := HM.out; simp [intOf]; omega
    · have e : lo = hi := by omega
      subst e
      go_wp2
      go_ret
      exact ⟨lo, rfl, hin, I.out.1, I.out.2, hbw.out⟩

end Go.Proofs.Qxb6605926a
