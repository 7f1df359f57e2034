/-
  THE WALK OF FnIncarnationStringKeepsOrder.
-/
import Derived.Test.Qxb6605926aFmtWalks
namespace Go.Proofs.Qxb6605926aFmt
open Go.RowKit Go.Kit Go.Extern.Stop Go.Stop Go.Extern

theorem toList_hexS (n : Nat) : (hexS n).toList = hexN 16 n := by
  simp [hexS, ByteArray.toList_eq]

theorem hexS_less (a b : Nat) (ha : a < 18446744073709551616) (hb : b < 18446744073709551616) : Op.bytesLess (hexS a).toList (hexS b).toList = decide (a < b) := by
  rw [toList_hexS, toList_hexS, hexN_less 16 a b (by have : (16 : Nat) ^ 16 = 18446744073709551616 := by decide
                                                     omega) (by have : (16 : Nat) ^ 16 = 18446744073709551616 := by decide
                                                                omega)]
theorem hexS_inj (a b : Nat) (ha : a < 18446744073709551616) (hb : b < 18446744073709551616) : (hexS a).toList = (hexS b).toList ↔ a = b := by
  rw [toList_hexS, toList_hexS, hexN_inj 16 a b (by have : (16 : Nat) ^ 16 = 18446744073709551616 := by decide
                                                    omega) (by have : (16 : Nat) ^ 16 = 18446744073709551616 := by decide
                                                               omega)]

theorem hexS_facts (a b : Int) (a0 : 0 ≤ a) (a1 : a < 18446744073709551616) (b0 : 0 ≤ b) (b1 : b < 18446744073709551616) :
    ∃ sa sb : ByteArray, sa = hexS a.toNat ∧ sb = hexS b.toNat ∧ sa.size = 16 ∧ sb.size = 16 ∧ Op.bytesLess sa.toList sb.toList = decide (a < b) ∧ (sa.toList == sb.toList) = (a == b) := by
  refine ⟨_, _, rfl, rfl, hexS_size _, hexS_size _, ?_, ?_⟩
  · rw [hexS_less _ _ (by omega) (by omega)]
    have : (a.toNat < b.toNat) ↔ a < b := by omega
    simp [this]
  · have : (a.toNat = b.toNat) ↔ a = b := by omega
    rw [Bool.eq_iff_iff]
    simp [hexS_inj _ _ (show a.toNat < 18446744073709551616 by omega) (show b.toNat < 18446744073709551616 by omega), this]

set_option maxHeartbeats 400000 in
theorem order_lt (F : Interp) (a b : Int) (w : World) (hF : F.told.answers w.tape) (a0 : 0 ≤ a) (a1 : a < 18446744073709551616) (b0 : 0 ≤ b) (b1 : b < 18446744073709551616) (hab : a < b) :
    Calls Tryf.prog 4 #[.int .u64 a, .int .u64 b] w fun e w' => e = .returned (.bool true) ∧ Grown w w' := by
  obtain ⟨sa, sb, ha, hb, la, lb, hl, he⟩ := hexS_facts a b a0 a1 b0 b1
  have ca := fun w hF => string_any F a w hF a0 a1
  have cb := fun w hF => string_any F b w hF b0 b1
  rw [← ha] at ca
  rw [← hb] at cb
  clear ha hb
  have hne : (a == b) = false := by simp; omega
  have hlt : decide (a < b) = true := by simp; omega
  rw [hlt] at hl
  rw [hne] at he
  go_enter Tryf.func4, Tryf.ntmps4
  go_wp2_with fail
  refine (ca _ (by exact hF)).mono ?_
  rintro e w' ⟨rfl, rfl⟩
  go_wp2_with fail
  refine (cb _ (by exact hF)).mono ?_
  rintro e w' ⟨rfl, rfl⟩
  go_wp2_with fail
  go_ret
  exact ⟨rfl, (((Grown.refl w).alloc _ _).alloc _ _).drew.drew⟩

set_option maxHeartbeats 400000 in
theorem order_gt (F : Interp) (a b : Int) (w : World) (hF : F.told.answers w.tape) (a0 : 0 ≤ a) (a1 : a < 18446744073709551616) (b0 : 0 ≤ b) (b1 : b < 18446744073709551616) (hab : b < a) :
    Calls Tryf.prog 4 #[.int .u64 a, .int .u64 b] w fun e w' => e = .returned (.bool true) ∧ Grown w w' := by
  obtain ⟨sa, sb, ha, hb, la, lb, hl, he⟩ := hexS_facts a b a0 a1 b0 b1
  have ca := fun w hF => string_any F a w hF a0 a1
  have cb := fun w hF => string_any F b w hF b0 b1
  rw [← ha] at ca
  rw [← hb] at cb
  clear ha hb
  have hne : (a == b) = false := by simp; omega
  have hlt : decide (a < b) = false := by simp; omega
  rw [hlt] at hl
  rw [hne] at he
  go_enter Tryf.func4, Tryf.ntmps4
  go_wp2_with fail
  refine (ca _ (by exact hF)).mono ?_
  rintro e w' ⟨rfl, rfl⟩
  go_wp2_with fail
  refine (cb _ (by exact hF)).mono ?_
  rintro e w' ⟨rfl, rfl⟩
  go_wp2_with fail
  go_ret
  exact ⟨rfl, (((Grown.refl w).alloc _ _).alloc _ _).drew.drew⟩

set_option maxHeartbeats 400000 in
theorem order_eq (F : Interp) (a b : Int) (w : World) (hF : F.told.answers w.tape) (a0 : 0 ≤ a) (a1 : a < 18446744073709551616) (b0 : 0 ≤ b) (b1 : b < 18446744073709551616) (hab : a = b) :
    Calls Tryf.prog 4 #[.int .u64 a, .int .u64 b] w fun e w' => e = .returned (.bool true) ∧ Grown w w' := by
  obtain ⟨sa, sb, ha, hb, la, lb, hl, he⟩ := hexS_facts a b a0 a1 b0 b1
  have ca := fun w hF => string_any F a w hF a0 a1
  have cb := fun w hF => string_any F b w hF b0 b1
  rw [← ha] at ca
  rw [← hb] at cb
  clear ha hb
  have hne : (a == b) = true := by simp; omega
  have hlt : decide (a < b) = false := by simp; omega
  clear hab
  rw [hlt] at hl
  rw [hne] at he
  go_enter Tryf.func4, Tryf.ntmps4
  go_wp2_with fail
  refine (ca _ (by exact hF)).mono ?_
  rintro e w' ⟨rfl, rfl⟩
  go_wp2_with fail
  refine (cb _ (by exact hF)).mono ?_
  rintro e w' ⟨rfl, rfl⟩
  go_wp2_with fail
  go_ret
  exact ⟨rfl, (((Grown.refl w).alloc _ _).alloc _ _).drew.drew⟩

theorem order_any (F : Interp) (a b : Int) (w : World) (hF : F.told.answers w.tape) (a0 : 0 ≤ a) (a1 : a < 18446744073709551616) (b0 : 0 ≤ b) (b1 : b < 18446744073709551616) :
    Calls Tryf.prog 4 #[.int .u64 a, .int .u64 b] w fun e w' => e = .returned (.bool true) ∧ Grown w w' := by
  rcases Int.lt_trichotomy a b with h | h | h
  · exact order_lt F a b w hF a0 a1 b0 b1 h
  · exact order_eq F a b w hF a0 a1 b0 b1 h
  · exact order_gt F a b w hF a0 a1 b0 b1 h

end Go.Proofs.Qxb6605926aFmt
