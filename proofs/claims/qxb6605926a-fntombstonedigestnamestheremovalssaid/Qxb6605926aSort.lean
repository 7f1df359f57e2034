/-
  strictlySorted, hasRemoval.
-/
import Derived.Test.Qxb6605926aBuild
namespace Go.Proofs.Qxb6605926a
open Go.RowKit

set_option maxHeartbeats 1000000 in
theorem sorted_empty (a : Option Addr) (cap : Nat) (w : World) : Calls Try.prog 19 #[.slice a 0 cap] w fun e w' => e = .returned (.bool true) ∧ w' = w := by
  go_enter Try.func19, Try.ntmps19
  go_wp2
  refine wp_loop_rounds 1 ?_
  rw [rounds_succ]
  go_wp2
  go_ret
  exact ⟨rfl, rfl⟩

set_option maxHeartbeats 2000000 in
theorem sorted_some (b off cap : Nat) (L : List Ch) (w : World) (h0 : 0 < L.length) (hn : L.length ≤ 65536) (hA : ArrS w b off L) : Calls Try.prog 19 #[.slice (some ⟨b, off, none⟩) L.length cap] w fun e w' => ∃ r : Bool, e = .returned (.bool r) ∧ (r = true → SortedC L) ∧ Below w.heap.size w w' := by
  have HA : Hid (ArrS w b off L) := hA
  clear hA
  go_enter Try.func19, Try.ntmps19
  go_wp2
  go_loopw [3] (fun i wr => ∃ m : Nat, m < L.length ∧ i = .int .i64 ((m : Int) + 1) ∧ Hid (∀ j, j < m → ltC (L.getD j dC) (L.getD (j + 1) dC)) ∧ Hid (Below w.heap.size w wr)) (fun i _ => L.length - (intOf i).toNat)
  case atStart => exact ⟨0, h0, rfl, fun j hj => by omega, Below.refl _ _⟩
  case round =>
    obtain ⟨m, hm, rfl, HI, HB⟩ := hrel
    by_cases hlt : m + 1 < L.length
    · obtain ⟨z0, z1, z2, z3⟩ := HA.out.kept HB.out m hm
      obtain ⟨y0, y1, y2, y3⟩ := HA.out.kept HB.out (m + 1) hlt
      obtain ⟨c, hc⟩ : ∃ c, c = L.getD m dC := ⟨_, rfl⟩
      obtain ⟨d, hd⟩ : ∃ d, d = L.getD (m + 1) dC := ⟨_, rfl⟩
      rw [← hc] at z0 z1 z2 z3
      rw [← hd] at y0 y1 y2 y3
      have HC : Hid _ := hc
      have HD : Hid _ := hd
      clear hc hd
      have hi1 : (m : Int) + 1 < (L.length : Int) := by omega
      have hi0 : (m : Int) < (L.length : Int) := by omega
      have hw : IntKind.i64.wrap (m : Int) = (m : Int) := by rw [IntKind.wrap_i64]; omega
      go_wp2
      go_region_with (go_at_call 30; refine (chgLess_any c d _).mono ?_; rintro e w1 ⟨r, rfl, hr, hb1⟩)
      all_goals
        have HB1 : Hid (Below w.heap.size w w1) := below_trans' HB.out ((Below.drew (Below.refl _ _)).trans hb1)
        have HR : Hid (r = true ↔ ltC c d) := hr
        clear hb1 hr
        go_wp2
        · go_ret
          exact ⟨false, rfl, fun h => (by cases h), HB1.out⟩
        · have hrt : r = true := by simpa using (by assumption : (!r) = false)
          go_roundw
          case rel =>
            refine ⟨m + 1, hlt, by go_num, fun j hj => ?_, HB1.out⟩
            by_cases e : j = m
            · subst e
              rw [← HC.out, ← HD.out]
              exact HR.out.1 hrt
            · exact HI.out j (by omega)
          case measure => simp [intOf]; omega
    · have e : m + 1 = L.length := by omega
      have hd : decide ((m : Int) + 1 < (L.length : Int)) = false := by rw [decide_eq_false_iff_not]; omega
      go_wp2
      go_ret
      exact ⟨true, rfl, fun _ j hj => HI.out j (by omega), HB.out⟩

set_option maxHeartbeats 1000000 in
theorem hasRem_empty (a : Option Addr) (cap : Nat) (id : ByteArray) (w : World) : Calls Try.prog 20 #[.slice a 0 cap, .string id] w fun e w' => e = .returned (.bool false) ∧ w' = w := by
  go_enter Try.func20, Try.ntmps20
  go_wp2
  refine wp_loop_rounds 1 ?_
  rw [rounds_succ]
  go_wp2
  go_ret
  exact ⟨rfl, rfl⟩

/-- It returned whether p holds. -/
def RetB (e : Ending) (p : Prop) : Prop := ∃ r : Bool, e = .returned (.bool r) ∧ (r = true ↔ p)

theorem RetB.yes {p : Prop} (h : p) : RetB (.returned (.bool true)) p := ⟨true, rfl, fun _ => h, fun _ => rfl⟩
theorem RetB.no {p : Prop} (h : ¬ p) : RetB (.returned (.bool false)) p := ⟨false, rfl, fun k => (by cases k), fun k => absurd k h⟩

theorem toList_minus : (⟨#[45]⟩ : ByteArray).toList = minus := ByteArray.toList_eq _

set_option maxHeartbeats 2000000 in
theorem hasRem_some (b off cap : Nat) (T : List Ch) (id : ByteArray) (w : World) (hn : T.length ≤ 65536) (hA : ArrS w b off T) : Calls Try.prog 20 #[.slice (some ⟨b, off, none⟩) T.length cap, .string id] w fun e w' => RetB e (hasRem T id.toList) ∧ w' = w := by
  go_enter Try.func20, Try.ntmps20
  go_wp2
  go_loop [5] (fun i => ∃ k : Nat, k ≤ T.length ∧ i = .int .i64 k ∧ Hid (∀ j, j < k → ¬ ((T.getD j dC).op.toList = minus ∧ (T.getD j dC).id.toList = id.toList))) (fun i => T.length - (intOf i).toNat)
  case atStart => exact ⟨0, by omega, rfl, fun j hj => by omega⟩
  case round =>
    obtain ⟨k, hk, rfl, HI⟩ := hrel
    by_cases hlt : k < T.length
    · obtain ⟨z0, z1, z2, z3⟩ := hA k hlt
      obtain ⟨c, hc⟩ : ∃ c, c = T.getD k dC := ⟨_, rfl⟩
      rw [← hc] at z0 z1 z2 z3
      have HC : Hid _ := hc
      clear hc hA
      by_cases ho : c.op.toList = [45]
      · by_cases hi : (c.id.toList == id.toList) = true
        · have HO : Hid _ := ho
          have HD : Hid _ := hi
          go_wp2
          go_ret
          refine ⟨RetB.yes ⟨k, hlt, ?_, ?_⟩, rfl⟩
          · rw [← HC.out]; exact HO.out
          · rw [← HC.out]; simpa using HD.out
        · have hi' : (c.id.toList == id.toList) = false := by simpa using hi
          have HD : Hid _ := hi'
          clear hi
          go_wp2
          go_round
          case rel =>
            refine ⟨k + 1, by omega, by go_num, fun j hj => ?_⟩
            by_cases e : j = k
            · subst e
              rw [← HC.out]
              intro h
              have := HD.out
              rw [h.2] at this
              simp at this
            · exact HI.out j (by omega)
          case measure => simp [intOf]; omega
      · have HO : Hid _ := ho
        go_wp2
        go_round
        case rel =>
          refine ⟨k + 1, by omega, by go_num, fun j hj => ?_⟩
          by_cases e : j = k
          · subst e
            rw [← HC.out]
            intro h
            exact HO.out h.1
          · exact HI.out j (by omega)
        case measure => simp [intOf]; omega
    · go_wp2
      go_ret
      exact ⟨RetB.no fun ⟨j, hj, h⟩ => absurd h (HI.out j (by omega)), rfl⟩

end Go.Proofs.Qxb6605926a
