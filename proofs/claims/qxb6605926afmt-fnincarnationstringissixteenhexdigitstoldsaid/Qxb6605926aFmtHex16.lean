/-
  THE WALK OF hex16: sixteen digits by shifts.
-/
import Derived.Test.Qxb6605926aFmtWalks
import Derived.Laws.BitsAllLaws
import Derived.Laws.IdiomStrings
namespace Go.Proofs.Qxb6605926aFmt
open Go.RowKit Go.Kit Go.Extern.Stop Go.Stop Go.Extern

/-- The array behind k rounds. -/
def cellsAt (x k : Nat) : Array Value := ((List.replicate (16 - k) (0 : UInt8) ++ hexN k x).map (fun c => Value.int .u8 (c.toNat : Int))).toArray

theorem digit_toNat (d : Nat) (h : d < 16) : ((FmtText.digit false d).toNat : Int) = if d < 10 then 48 + (d : Int) else 87 + (d : Int) := by
  have h2 : ∀ d : Fin 16, ((FmtText.digit false d.val).toNat : Int) = if d.val < 10 then 48 + (d.val : Int) else 87 + (d.val : Int) := by decide +kernel
  exact h2 ⟨d, h⟩

theorem cellsAt_get (x k n : Nat) (h : n + k = 15) : (cellsAt x k)[n]? = some (.int .u8 0) := by
  have h1 : n < 16 - k := by omega
  simp [cellsAt, List.getElem?_append_left, h1]

theorem cellsAt_set (x k n : Nat) (h : n + k = 15) (v : Int) (hv : v = ((FmtText.digit false (x / 16 ^ k % 16)).toNat : Int)) :
    (cellsAt x k).setIfInBounds n (.int .u8 v) = cellsAt x (k + 1) := by
  have e : 16 - k = n + 1 := by omega
  have e2 : 16 - (k + 1) = n := by omega
  rw [cellsAt, cellsAt, e, e2, hexN_front, List.replicate_succ']
  subst hv
  simp

set_option maxHeartbeats 400000 in
theorem hex16_any (x : Nat) (w : World) (hx : x < 18446744073709551616) :
    Calls Tryf.prog 6 #[.int .u64 x] w fun e w' => e = .returned (.string (hexS x)) ∧ Grown w w' := by
  go_enter Tryf.func6, Tryf.ntmps6
  go_wp2
  go_loopw [0, 4] (fun a i wr => ∃ k : Nat, k ≤ 16 ∧ i = .int .i64 (15 - (k : Int)) ∧ a = .int .u64 ((x / 16 ^ k : Nat) : Int) ∧ wr = w.alloc (.cells (cellsAt x k) 29)) (fun _ i _ => (intOf i + 1).toNat)
  case atStart => 
    exact ⟨0, by omega, rfl, by simp, rfl⟩
  case round =>
    obtain ⟨k, hk, rfl, rfl, rfl⟩ := hrel
    by_cases hlt : k < 16
    · obtain ⟨n, hn⟩ : ∃ n : Nat, n + k = 15 := ⟨15 - k, by omega⟩
      obtain ⟨y, hy⟩ : ∃ y : Nat, y = x / 16 ^ k := ⟨_, rfl⟩
      obtain ⟨d, hd⟩ : ∃ d : Nat, d = y % 16 := ⟨_, rfl⟩
      have hy1 : y < 18446744073709551616 := by rw [hy]; exact Nat.lt_of_le_of_lt (Nat.div_le_self _ _) hx
      have hi : (15 - (k : Int)) = (n : Int) := by omega
      have hn1 : n < 16 := by omega
      have hd1 : d < 16 := by omega
      have hand : bits BinOp.and IntKind.u64 (y : Int) 15 = (d : Int) := by
        rw [hd, ← nat_mask4]; exact u64_and_nat y 15 hy1 (by omega)
      have hc := cellsAt_get x k n hn
      have hdig := digit_toNat d hd1
      rw [hd, hy] at hdig
      rw [hi, ← hy]
      have hyd : y / 16 = x / 16 ^ (k + 1) := by rw [hy, Nat.div_div_eq_div_mul, ← Nat.pow_succ]
      have HI : Hid (n + k = 15) := hn
      have HY : Hid (y / 16 = x / 16 ^ (k + 1)) := hyd
      have HD : Hid (((FmtText.digit false (x / 16 ^ k % 16)).toNat : Int) = if d < 10 then 48 + (d : Int) else 87 + (d : Int)) := by rw [hd, hy]; exact hdig
      clear hyd hy hd hdig hi hn
      by_cases h10 : d < 10
      all_goals
        go_wp2
        go_roundw
        case rel => exact ⟨k + 1, by omega, by have := HI.out; go_num, by rw [← HY.out]; go_num, by rw [cellsAt_set x k n HI.out _ (by rw [HD.out]; split <;> omega)]⟩
        case measure => simp [intOf]
    · have e : k = 16 := by omega
      subst e
      have hconv : (convert 31 9 (.slice (some ⟨w.heap.size, 0, none⟩) 16 16)).run Tryf.prog (w.alloc (.cells (cellsAt x 16) 29)) = .ok (.string (hexS x)) (w.alloc (.cells (cellsAt x 16) 29)) := by
        have h := run_convert_bytes_back (P := Tryf.prog) (w.alloc (.cells (cellsAt x 16) 29)) 31 9 5 ⟨w.heap.size, 0, none⟩ 16 (hexN 16 x) Tryf.underlying31 Tryf.underlying5 Tryf.underlying9 (by
          intro j hj
          have e0 : (⟨w.heap.size, 0, none⟩ : Addr).add j = ⟨w.heap.size, j, none⟩ := by unfold Addr.add; split <;> simp_all
          rw [e0, World.cell?_alloc_at _ _ _ _ rfl]
          simp [cellsAt, hj])
        rw [hexN_length] at h
        exact h
      go_wp2
      go_ret
      exact ⟨rfl, (Grown.refl w).alloc _ _⟩

end Go.Proofs.Qxb6605926aFmt
