/-
  THE PLAIN MATHEMATICS OF SIXTEEN HEXADECIMAL DIGITS. No Go here.
-/
import Derived.Stop.FmtTextBases
import GoSem.Op.String
namespace Go.Proofs.Qxb6605926aFmt
open Go.Extern

/-- The last k hexadecimal digits of n, the highest first. -/
def hexN : Nat → Nat → List UInt8
  | 0, _ => []
  | k + 1, n => hexN k (n / 16) ++ [FmtText.digit false (n % 16)]

theorem hexN_length : ∀ (k n : Nat), (hexN k n).length = k
  | 0, _ => rfl
  | k + 1, n => by simp [hexN, hexN_length k]

theorem hexN_zero : ∀ k : Nat, hexN k 0 = List.replicate k 48
  | 0 => rfl
  | k + 1 => by
    rw [hexN, Nat.zero_div, hexN_zero k, List.replicate_succ']
    rfl

theorem hexN_front : ∀ (k n : Nat), hexN (k + 1) n = FmtText.digit false (n / 16 ^ k % 16) :: hexN k n
  | 0, n => by simp [hexN]
  | k + 1, n => by
    rw [hexN, hexN_front k (n / 16), hexN, Nat.div_div_eq_div_mul, ← Nat.pow_succ']
    rfl

/-- What strconv's digits come to once zeros stand ahead of them. -/
theorem digits_pad : ∀ (k fuel u : Nat) (acc : List UInt8), u < 16 ^ (k + 1) → k < fuel →
    List.replicate (k + 1 + acc.length - (FmtText.digitsFrom 16 false fuel u acc).length) 48 ++ FmtText.digitsFrom 16 false fuel u acc = hexN (k + 1) u ++ acc
  | _, 0, _, _, _, hf => by omega
  | 0, fuel + 1, u, acc, hu, _ => by
    have hu' : u < 16 := by simpa using hu
    rw [FmtText.digitsFrom, if_pos hu']
    have e : u % 16 = u := Nat.mod_eq_of_lt hu'
    simp [hexN, e, Nat.add_comm]
  | k + 1, fuel + 1, u, acc, hu, hf => by
    rw [FmtText.digitsFrom]
    by_cases h : u < 16
    · have e : u % 16 = u := Nat.mod_eq_of_lt h
      have e0 : u / 16 = 0 := Nat.div_eq_of_lt h
      have en : k + 1 + 1 + acc.length - (FmtText.digit false u :: acc).length = k + 1 := by simp; omega
      rw [if_pos h, en, hexN, e0, e, hexN_zero]
      simp
    · rw [if_neg h]
      have hd : u / 16 < 16 ^ (k + 1) := by
        rw [Nat.div_lt_iff_lt_mul (by omega), ← Nat.pow_succ]; exact hu
      have ih := digits_pad k fuel (u / 16) (FmtText.digit false (u % 16) :: acc) hd (by omega)
      have en : k + 1 + (FmtText.digit false (u % 16) :: acc).length = k + 1 + 1 + acc.length := by simp; omega
      rw [en] at ih
      have hx : hexN (k + 1 + 1) u = hexN (k + 1) (u / 16) ++ [FmtText.digit false (u % 16)] := rfl
      rw [ih, hx]
      simp

theorem hexZeros_eq (x : Int) (h0 : 0 ≤ x) (h1 : x < 18446744073709551616) : FmtText.hexZeros false false 16 x = hexN 16 x.toNat := by
  have h := digits_pad 15 64 x.toNat [] (by have : (16 : Nat) ^ (15 + 1) = 18446744073709551616 := by decide
                                            omega) (by omega)
  have e : x.natAbs = x.toNat := by omega
  have hx : ¬ x < 0 := by omega
  simp only [List.append_nil, List.length_nil, Nat.add_zero] at h
  rw [FmtText.hexZeros, if_neg hx, if_neg hx, e]
  simpa [FmtText.numeral] using h

/-! ### The order -/
theorem digit_lt : ∀ a b : Fin 16, (FmtText.digit false a.val < FmtText.digit false b.val ↔ a.val < b.val) ∧ (FmtText.digit false a.val = FmtText.digit false b.val ↔ a.val = b.val) := by
  decide +kernel

theorem less_snoc : ∀ (xs ys : List UInt8) (c d : UInt8), xs.length = ys.length →
    Op.bytesLess (xs ++ [c]) (ys ++ [d]) = (Op.bytesLess xs ys || (xs == ys && decide (c < d)))
  | [], [], c, d, _ => by simp [Op.bytesLess]
  | x :: xs, y :: ys, c, d, h => by
    have ih := less_snoc xs ys c d (by simpa using h)
    simp only [List.cons_append, Op.bytesLess, ih, List.cons_beq_cons]
    cases decide (x < y) <;> cases (x == y) <;> simp
  | [], _ :: _, _, _, h => by simp at h
  | _ :: _, [], _, _, h => by simp at h

theorem hexN_inj : ∀ (k a b : Nat), a < 16 ^ k → b < 16 ^ k → (hexN k a = hexN k b ↔ a = b)
  | 0, a, b, ha, hb => by
    have ha' : a < 1 := by simpa using ha
    have hb' : b < 1 := by simpa using hb
    have e : a = b := by omega
    simp [hexN, e]
  | k + 1, a, b, ha, hb => by
    have da : a / 16 < 16 ^ k := by rw [Nat.div_lt_iff_lt_mul (by omega), ← Nat.pow_succ]; exact ha
    have db : b / 16 < 16 ^ k := by rw [Nat.div_lt_iff_lt_mul (by omega), ← Nat.pow_succ]; exact hb
    have ih := hexN_inj k (a / 16) (b / 16) da db
    have hd := (digit_lt ⟨a % 16, Nat.mod_lt _ (by omega)⟩ ⟨b % 16, Nat.mod_lt _ (by omega)⟩).2
    simp only at hd
    rw [hexN, hexN]
    constructor
    · intro h
      obtain ⟨h1, h2⟩ := List.append_inj' h rfl
      have e1 := ih.1 h1
      have e2 := hd.1 (by simpa using h2)
      omega
    · intro h; rw [h]

theorem hexN_less : ∀ (k a b : Nat), a < 16 ^ k → b < 16 ^ k → Op.bytesLess (hexN k a) (hexN k b) = decide (a < b)
  | 0, a, b, ha, hb => by
    have ha' : a < 1 := by simpa using ha
    have hb' : b < 1 := by simpa using hb
    have : ¬ a < b := by omega
    simp [hexN, Op.bytesLess, this]
  | k + 1, a, b, ha, hb => by
    have da : a / 16 < 16 ^ k := by rw [Nat.div_lt_iff_lt_mul (by omega), ← Nat.pow_succ]; exact ha
    have db : b / 16 < 16 ^ k := by rw [Nat.div_lt_iff_lt_mul (by omega), ← Nat.pow_succ]; exact hb
    have ih := hexN_less k (a / 16) (b / 16) da db
    have ij := hexN_inj k (a / 16) (b / 16) da db
    have hd := (digit_lt ⟨a % 16, Nat.mod_lt _ (by omega)⟩ ⟨b % 16, Nat.mod_lt _ (by omega)⟩).1
    simp only at hd
    rw [hexN, hexN, less_snoc _ _ _ _ (by rw [hexN_length, hexN_length]), ih]
    rw [Bool.eq_iff_iff]
    simp only [Bool.or_eq_true, Bool.and_eq_true, decide_eq_true_eq, beq_iff_eq, ij, hd]
    omega

end Go.Proofs.Qxb6605926aFmt
