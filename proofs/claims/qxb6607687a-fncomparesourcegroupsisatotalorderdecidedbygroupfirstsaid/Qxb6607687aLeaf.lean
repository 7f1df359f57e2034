/-
  The leaves: cmp.Compare[byte], slices.Compare[[]byte,byte], cmp.Or[int], sign3.
-/
import Derived.Test.Qxb6607687aRows
import Derived.WalkKit
import Derived.WalkSpells
import Derived.WalkLawsBesides
namespace Go.Proofs.Qxb6607687a
open Go.RowKit

/-- Which of two numbers is the greater: -1, 0, 1. -/
def sg (x y : Int) : Int := if x < y then -1 else if y < x then 1 else 0

theorem sg_lt {x y : Int} (h : x < y) : sg x y = -1 := by unfold sg; rw [if_pos h]
theorem sg_gt {x y : Int} (h : y < x) : sg x y = 1 := by unfold sg; rw [if_neg (by omega), if_pos h]
theorem sg_eq {x y : Int} (h : x = y) : sg x y = 0 := by unfold sg; rw [if_neg (by omega), if_neg (by omega)]

theorem ret_int {k : IntKind} {a b : Int} (h : a = b) : Ending.returned (.int k a) = .returned (.int k b) := by rw [h]

theorem cmpByte_any (x y : Int) (w : World) : Calls Try.prog 46 #[.int .u8 x, .int .u8 y] w fun e w' => e = .returned (.int .i64 (sg x y)) ∧ w' = w := by
  rcases Int.lt_trichotomy x y with h | h | h
  · go_enter Try.func46, Try.ntmps46
    go_wp2
    go_ret
    exact ⟨ret_int (sg_lt h).symm, rfl⟩
  · have h1 : ¬ x < y := by omega
    have h2 : ¬ y < x := by omega
    rw [sg_eq h]
    clear h
    go_enter Try.func46, Try.ntmps46
    go_wp2
    go_ret
    exact ⟨rfl, rfl⟩
  · have h1 : ¬ x < y := by omega
    go_enter Try.func46, Try.ntmps46
    go_wp2
    go_ret
    exact ⟨ret_int (sg_gt h).symm, rfl⟩

theorem sign3_any (x y : Int) (w : World) : Calls Try.prog 9 #[.int .u64 x, .int .u64 y] w fun e w' => e = .returned (.int .i64 (sg x y)) ∧ w' = w := by
  rcases Int.lt_trichotomy x y with h | h | h
  · go_enter Try.func9, Try.ntmps9
    go_wp2
    go_ret
    exact ⟨ret_int (sg_lt h).symm, rfl⟩
  · have h1 : ¬ x < y := by omega
    have h2 : ¬ y < x := by omega
    rw [sg_eq h]
    clear h
    go_enter Try.func9, Try.ntmps9
    go_wp2
    go_ret
    exact ⟨rfl, rfl⟩
  · have h1 : ¬ x < y := by omega
    go_enter Try.func9, Try.ntmps9
    go_wp2
    go_ret
    exact ⟨ret_int (sg_gt h).symm, rfl⟩

/-- Four bytes as one number, the first the highest. -/
def num4 (X : Nat → Int) : Int := X 0 * 16777216 + X 1 * 65536 + X 2 * 256 + X 3

/-- Four bytes. -/
def Bytes4 (X : Nat → Int) : Prop := ∀ j, j < 4 → 0 ≤ X j ∧ X j ≤ 255

theorem first_differs {X Y : Nat → Int} (hX : Bytes4 X) (hY : Bytes4 Y) (k : Nat) (hk : k < 4) (he : ∀ j, j < k → X j = Y j) (hd : sg (X k) (Y k) ≠ 0) : sg (X k) (Y k) = sg (num4 X) (num4 Y) := by
  have x0 := hX 0 (by omega); have x1 := hX 1 (by omega); have x2 := hX 2 (by omega); have x3 := hX 3 (by omega)
  have y0 := hY 0 (by omega); have y1 := hY 1 (by omega); have y2 := hY 2 (by omega); have y3 := hY 3 (by omega)
  have key : (X k < Y k → num4 X < num4 Y) ∧ (Y k < X k → num4 Y < num4 X) := by
    unfold num4
    match k, hk, he with
    | 0, _, _ => constructor <;> (intro; omega)
    | 1, _, he => have e0 := he 0 (by omega); constructor <;> (intro; omega)
    | 2, _, he => have e0 := he 0 (by omega); have e1 := he 1 (by omega); constructor <;> (intro; omega)
    | 3, _, he => have e0 := he 0 (by omega); have e1 := he 1 (by omega); have e2 := he 2 (by omega); constructor <;> (intro; omega)
  rcases Int.lt_trichotomy (X k) (Y k) with h | h | h
  · rw [sg_lt h, sg_lt (key.1 h)]
  · exact absurd (sg_eq h) hd
  · rw [sg_gt h, sg_gt (key.2 h)]

theorem all_equal {X Y : Nat → Int} (he : ∀ j, j < 4 → X j = Y j) : sg (num4 X) (num4 Y) = 0 := by
  apply sg_eq
  unfold num4
  rw [he 0 (by omega), he 1 (by omega), he 2 (by omega), he 3 (by omega)]

/-- Four cells. -/
def Row4 (w : World) (b off : Nat) (X : Nat → Int) : Prop := ∀ j, j < 4 → w.cell? ⟨b, off + j, none⟩ = some (.int .u8 (X j))

set_option maxHeartbeats 400000 in
theorem compare4_any (b off b' off' c c' : Nat) (X Y : Nat → Int) (w : World) (hX : Bytes4 X) (hY : Bytes4 Y) (rX : Row4 w b off X) (rY : Row4 w b' off' Y) :
    Calls Try.prog 40 #[.slice (some ⟨b, off, none⟩) 4 c, .slice (some ⟨b', off', none⟩) 4 c'] w fun e w' => e = .returned (.int .i64 (sg (num4 X) (num4 Y))) ∧ w' = w := by
  have HX : Hid _ := hX
  have HY : Hid _ := hY
  have RX : Hid (Row4 w b off X) := rX
  have RY : Hid (Row4 w b' off' Y) := rY
  clear hX hY rX rY
  go_enter Try.func40, Try.ntmps40
  go_wp2
  go_loop [11] (fun i => ∃ k : Nat, k ≤ 4 ∧ i = .int .i64 k ∧ Hid (∀ j, j < k → X j = Y j)) (fun i => 4 - (intOf i).toNat)
  case atStart => exact ⟨0, by omega, rfl, fun j hj => by omega⟩
  case round =>
    obtain ⟨k, hk, rfl, HI⟩ := hrel
    by_cases hlt : k < 4
    · have z := RX.out k hlt
      have y := RY.out k hlt
      by_cases hd : X k = Y k
      · have hz := sg_eq hd
        have HE : Hid (X k = Y k) := hd
        clear hd
        go_wp2_with (go_at_call 46; refine (cmpByte_any _ _ _).mono ?_; rintro e w' ⟨rfl, rfl⟩)
        go_round
        case rel =>
          refine ⟨k + 1, by omega, by go_num, fun j hj => ?_⟩
          by_cases e : j = k
          · rw [e]; exact HE.out
          · exact HI.out j (by omega)
        case measure => simp [intOf]; omega
      · have hne : sg (X k) (Y k) ≠ 0 := by
          unfold sg
          split
          · decide
          · split
            · decide
            · omega
        have hz : (sg (X k) (Y k) != 0) = true := by simpa using hne
        have HF : Hid (sg (X k) (Y k) = sg (num4 X) (num4 Y)) := first_differs HX.out HY.out k hlt HI.out hne
        clear hd hne
        go_wp2_with (go_at_call 46; refine (cmpByte_any _ _ _).mono ?_; rintro e w' ⟨rfl, rfl⟩)
        go_ret
        exact ⟨ret_int HF.out, rfl⟩
    · have HF : Hid (sg (num4 X) (num4 Y) = 0) := all_equal fun j hj => HI.out j (by omega)
      go_wp2
      go_ret
      exact ⟨ret_int HF.out.symm, rfl⟩

/-- The first that is not zero. -/
def orI (x y : Int) : Int := if x = 0 then y else x
theorem orI_zero (y : Int) : orI 0 y = y := by unfold orI; rw [if_pos rfl]
theorem orI_not {x : Int} (y : Int) (h : ¬ x = 0) : orI x y = x := by unfold orI; rw [if_neg h]

/-- cmp.Or of two. -/
theorem or2_any (b c : Nat) (x y : Int) (w : World) (h0 : w.cell? ⟨b, 0, none⟩ = some (.int .i64 x)) (h1 : w.cell? ⟨b, 1, none⟩ = some (.int .i64 y)) :
    Calls Try.prog 39 #[.slice (some ⟨b, 0, none⟩) 2 c] w fun e w' => e = .returned (.int .i64 (orI x y)) ∧ w' = w := by
  by_cases hx : x = 0
  · subst hx
    rw [orI_zero]
    by_cases hy : y = 0
    · subst hy
      go_enter Try.func39, Try.ntmps39
      go_wp2
      refine wp_loop_rounds 3 ?_
      rw [rounds_succ]
      go_wp2
      rw [rounds_succ]
      go_wp2
      rw [rounds_succ]
      go_wp2
      go_ret
      exact ⟨rfl, rfl⟩
    · have hy' : (y != 0) = true := by simpa using hy
      go_enter Try.func39, Try.ntmps39
      go_wp2
      refine wp_loop_rounds 2 ?_
      rw [rounds_succ]
      go_wp2
      rw [rounds_succ]
      go_wp2
      go_ret
      exact ⟨rfl, rfl⟩
  · have hx' : (x != 0) = true := by simpa using hx
    rw [orI_not y hx]
    go_enter Try.func39, Try.ntmps39
    go_wp2
    refine wp_loop_rounds 1 ?_
    rw [rounds_succ]
    go_wp2
    go_ret
    exact ⟨rfl, rfl⟩

end Go.Proofs.Qxb6607687a
