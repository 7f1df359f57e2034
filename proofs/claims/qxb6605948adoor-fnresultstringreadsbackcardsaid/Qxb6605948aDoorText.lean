/-
  THE WALK OF (Result).String.
-/
import Derived.Test.Qxb6605948aDoorItoa
import Derived.Test.Qxb6605948aDoorParseNeg
import Derived.Lib.ItoaMem
namespace Go.Proofs.Qxb6605948aDoor
open Go.RowKit

theorem below_grow (w : World) (k : Nat) (os : Array Obj) : Below w.heap.size w (Sort.grow (w.drewN k) os) :=
  ⟨rfl, rfl, rfl, by simp [Sort.grow, World.drewN], fun i hi => by
    show ((w.drewN k).heap ++ os)[i]? = _
    rw [Array.getElem?_append_left (by exact hi)]
    rfl⟩

theorem string_1 (w : World) : Calls Tryd.prog 5 #[.int .i64 1] w fun e w' => e = .returned (.string ⟨#[111, 107]⟩) ∧ w' = w := by
  go_enter Tryd.func5, Tryd.ntmps5
  go_wp2
  go_ret
  exact ⟨rfl, rfl⟩
theorem string_2 (w : World) : Calls Tryd.prog 5 #[.int .i64 2] w fun e w' => e = .returned (.string ⟨#[100, 101, 97, 100, 108, 105, 110, 101]⟩) ∧ w' = w := by
  go_enter Tryd.func5, Tryd.ntmps5
  go_wp2
  go_ret
  exact ⟨rfl, rfl⟩
theorem string_3 (w : World) : Calls Tryd.prog 5 #[.int .i64 3] w fun e w' => e = .returned (.string ⟨#[101, 114, 114, 111, 114]⟩) ∧ w' = w := by
  go_enter Tryd.func5, Tryd.ntmps5
  go_wp2
  go_ret
  exact ⟨rfl, rfl⟩
theorem string_4 (w : World) : Calls Tryd.prog 5 #[.int .i64 4] w fun e w' => e = .returned (.string ⟨#[102, 111, 114, 99, 101, 100]⟩) ∧ w' = w := by
  go_enter Tryd.func5, Tryd.ntmps5
  go_wp2
  go_ret
  exact ⟨rfl, rfl⟩

theorem itoa_len (n : Int) (h0 : -9223372036854775808 ≤ n) (h1 : n ≤ 9223372036854775807) : (Lib.itoa n).length ≤ 21 := by
  have e : (10 : Nat) ^ (19 + 1) = 100000000000000000000 := by decide
  unfold Lib.itoa
  split
  · have := dec_short 19 n.natAbs (by omega)
    simp
    omega
  · have := dec_short 19 n.toNat (by omega)
    omega

set_option maxHeartbeats 400000 in
theorem string_any (n : Int) (w : World) (h0 : -9223372036854775808 ≤ n) (h1 : n ≤ 9223372036854775807) (hn : ¬ n = 1 ∧ ¬ n = 2 ∧ ¬ n = 3 ∧ ¬ n = 4) (htab : Lib.TabIs Tryd.prog w "internal/strconv.uint64pow10" .u64 Lib.pow10Tab) :
    Calls Tryd.prog 5 #[.int .i64 n] w fun e w' => e = .returned (.string (⟨#[82, 101, 115, 117, 108, 116, 40]⟩ ++ ⟨(Lib.itoa n).toArray⟩ ++ ⟨#[41]⟩)) ∧ Below w.heap.size w w' := by
  obtain ⟨n1, n2, n3, n4⟩ := hn
  have m1 : (n == 1) = false := by simpa using n1
  have m2 : (n == 2) = false := by simpa using n2
  have m3 : (n == 3) = false := by simpa using n3
  have m4 : (n == 4) = false := by simpa using n4
  have hc := Tryd.strconv_Itoa n h0 h1 w htab
  have hl := itoa_len n h0 h1
  have hl1 : ¬ 9223372036854775807 < 7 + (Lib.itoa n).length := by omega
  have hl2 : ¬ 9223372036854775807 < 7 + (Lib.itoa n).length + 1 := by omega
  clear n1 n2 n3 n4 htab hl
  go_enter Tryd.func5, Tryd.ntmps5
  go_wp2_with (go_at_call 6; refine hc.mono ?_; rintro e w' ⟨rfl, k, os, rfl⟩)
  go_ret
  exact ⟨rfl, below_grow w k os⟩

/-! ### What the text is good for -/

/-- The text round whatever stands between the brackets. -/
def textOf (l : List UInt8) : ByteArray := ⟨#[82, 101, 115, 117, 108, 116, 40]⟩ ++ ⟨l.toArray⟩ ++ ⟨#[41]⟩

theorem textOf_list (l : List UInt8) : (textOf l).data.toList = [82, 101, 115, 117, 108, 116, 40] ++ (l ++ [41]) := by
  simp [textOf, ByteArray.data_append]

theorem textOf_size (l : List UInt8) : (textOf l).size = l.length + 8 := by
  have h : (textOf l).data.toList.length = l.length + 8 := by rw [textOf_list]; simp
  rw [Array.length_toList] at h
  exact h

theorem textOf_not (l c : List UInt8) (hc : c.length ≤ 8) (hl : 1 ≤ l.length) : ((textOf l).toList == c) = false := by
  rw [beq_eq_false_iff_ne, ByteArray.toList_eq, textOf_list]
  intro h
  have := congrArg List.length h
  simp at this
  omega

theorem textOf_head (l : List UInt8) : ((textOf l).extract 0 7).toList = [82, 101, 115, 117, 108, 116, 40] := by
  rw [ByteArray.toList_eq, ByteArray.data_extract, Array.toList_extract, textOf_list]
  simp

theorem textOf_body (l : List UInt8) : (textOf l).extract 7 (l.length + 7) = ⟨l.toArray⟩ := by
  apply ByteArray.ext
  apply Array.toList_inj.1
  rw [ByteArray.data_extract, Array.toList_extract, textOf_list]
  simp

theorem textOf_last (l : List UInt8) (h : l.length + 7 < (textOf l).size) : (textOf l)[l.length + 7] = 41 := by
  have e : (textOf l).data.toList[l.length + 7]? = some 41 := by
    rw [textOf_list, List.getElem?_append_right (by simp)]
    simp
  have e2 : (textOf l).data.toList[l.length + 7]? = some (textOf l)[l.length + 7] := by
    rw [List.getElem?_eq_getElem (by rw [Array.length_toList]; exact h)]
    rfl
  rw [e2] at e
  exact Option.some.inj e

/-- The digits of a number. -/
def digitsOf (u : Nat) : ByteArray := ⟨(Lib.decDigits u).toArray⟩

theorem digitsOf_size (u : Nat) : (digitsOf u).size = (Lib.decDigits u).length := by simp [digitsOf, ByteArray.size]

theorem digitsOf_get (u k : Nat) (h : k < (digitsOf u).size) : (Lib.decDigits u)[k]? = some (digitsOf u)[k] := by
  rw [digitsOf_size] at h
  rw [List.getElem?_eq_getElem h]
  rfl

theorem digitsOf_digit (u k : Nat) (h : k < (digitsOf u).size) : 48 ≤ (digitsOf u)[k].toNat ∧ (digitsOf u)[k].toNat ≤ 57 :=
  (dec_all u).2.1 _ (List.mem_of_getElem? (digitsOf_get u k h))

theorem digitsOf_step (u k : Nat) (h : k < (digitsOf u).size) : val ((Lib.decDigits u).take (k + 1)) = val ((Lib.decDigits u).take k) * 10 + ((digitsOf u)[k].toNat - 48) := by
  have hg := digitsOf_get u k h
  rw [digitsOf_size] at h
  rw [List.take_succ_eq_append_getElem h, val_snoc]
  rw [List.getElem?_eq_getElem h] at hg
  rw [Option.some.inj hg]

theorem digitsOf_le (u k : Nat) : val ((Lib.decDigits u).take k) ≤ u := by
  have h := val_take (Lib.decDigits u) k
  rwa [(dec_all u).1] at h

theorem digitsOf_whole (u : Nat) : val ((Lib.decDigits u).take (digitsOf u).size) = u := by
  rw [digitsOf_size, List.take_length, (dec_all u).1]

theorem digitsOf_short (u : Nat) (h : u ≤ 9223372036854775808) : (digitsOf u).size ≤ 20 := by
  rw [digitsOf_size]
  have e : (10 : Nat) ^ (19 + 1) = 100000000000000000000 := by decide
  exact dec_short 19 u (by omega)

theorem digitsOf_pos (u : Nat) : 1 ≤ (digitsOf u).size := by rw [digitsOf_size]; exact (dec_all u).2.2

/-- The text of a number that is not negative reads back. -/
theorem reads_pos (u : Nat) (w : World) (hu : u ≤ 9223372036854775807) : Calls Tryd.prog 4 #[.string (textOf (Lib.decDigits u))] w fun e w' => e = .returned (.tuple #[.int .i64 u, .bool true]) ∧ w' = w := by
  have hp := (dec_all u).2.2
  have hs := digitsOf_size u
  refine parse_pos (textOf (Lib.decDigits u)) (digitsOf u) u (fun k => val ((Lib.decDigits u).take k)) w (by rw [textOf_size, hs]) (digitsOf_short u (by omega)) (digitsOf_pos u)
    (textOf_not _ _ (by decide) hp) (textOf_not _ _ (by decide) hp) (textOf_not _ _ (by decide) hp) (textOf_not _ _ (by decide) hp) (textOf_head _) ?_ ?_ (digitsOf_digit u) rfl (digitsOf_step u) (digitsOf_le u) (digitsOf_whole u) hu
  · simp only [hs]
    exact textOf_last _ _
  · rw [hs]
    exact textOf_body _

/-- The text of a negative number reads back. -/
theorem reads_neg (u : Nat) (w : World) (hu0 : 1 ≤ u) (hu : u ≤ 9223372036854775808) : Calls Tryd.prog 4 #[.string (textOf (45 :: Lib.decDigits u))] w fun e w' => e = .returned (.tuple #[.int .i64 (-(u : Int)), .bool true]) ∧ w' = w := by
  have hp := (dec_all u).2.2
  have hs := digitsOf_size u
  refine parse_neg (textOf (45 :: Lib.decDigits u)) ⟨(45 :: Lib.decDigits u).toArray⟩ (digitsOf u) u (fun k => val ((Lib.decDigits u).take k)) w (by rw [textOf_size, hs]; simp) (digitsOf_short u hu) (digitsOf_pos u)
    (textOf_not _ _ (by decide) (by simp)) (textOf_not _ _ (by decide) (by simp)) (textOf_not _ _ (by decide) (by simp)) (textOf_not _ _ (by decide) (by simp)) (textOf_head _) ?_ ?_ (by rw [hs]; show (45 :: Lib.decDigits u).toArray.size = _; simp) rfl ?_ (digitsOf_digit u) rfl (digitsOf_step u) (digitsOf_le u) (digitsOf_whole u) hu0 hu
  · have h := textOf_last (45 :: Lib.decDigits u)
    simp only [List.length_cons] at h
    simp only [hs]
    exact h (by rw [textOf_size]; simp)
  · have h := textOf_body (45 :: Lib.decDigits u)
    simp only [List.length_cons] at h
    rw [hs]
    exact h
  · apply ByteArray.ext
    apply Array.toList_inj.1
    rw [ByteArray.data_extract, Array.toList_extract, hs]
    simp [digitsOf]

end Go.Proofs.Qxb6605948aDoor
