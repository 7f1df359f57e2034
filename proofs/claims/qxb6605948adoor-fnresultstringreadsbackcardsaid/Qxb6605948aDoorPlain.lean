/-
  THE PLAIN MATHEMATICS OF DECIMAL NUMERALS READ BACK. No Go here.
-/
import Derived.Lib.ItoaNum
namespace Go.Proofs.Qxb6605948aDoor

/-- The number that a text of digits spells. -/
def val (l : List UInt8) : Nat := l.foldl (fun m c => m * 10 + (c.toNat - 48)) 0

theorem val_snoc (l : List UInt8) (c : UInt8) : val (l ++ [c]) = val l * 10 + (c.toNat - 48) := by
  simp [val]

theorem val_grows (l : List UInt8) : ∀ r : List UInt8, val l ≤ val (l ++ r)
  | [] => by simp
  | c :: r => by
    have h := val_grows (l ++ [c]) r
    rw [val_snoc, List.append_assoc] at h
    have e : [c] ++ r = c :: r := rfl
    rw [e] at h
    omega

theorem val_take (l : List UInt8) (k : Nat) : val (l.take k) ≤ val l := by
  have h := val_grows (l.take k) (l.drop k)
  rwa [List.take_append_drop] at h

/-- Digits alone. -/
def Digits (l : List UInt8) : Prop := ∀ c ∈ l, 48 ≤ c.toNat ∧ c.toNat ≤ 57

theorem digit_toNat (d : Nat) (h : d < 10) : (UInt8.ofNat (48 + d)).toNat = 48 + d := by
  rw [UInt8.toNat_ofNat']; omega

theorem dec_all (u : Nat) : val (Lib.decDigits u) = u ∧ Digits (Lib.decDigits u) ∧ 1 ≤ (Lib.decDigits u).length := by
  induction u using Nat.strongRecOn with
  | ind u ih =>
    rw [Lib.decDigits]
    by_cases h : u < 10
    · rw [dif_pos h]
      refine ⟨?_, ?_, by simp⟩
      · simp [val]
        omega
      · intro c hc
        have e : c = UInt8.ofNat (48 + u) := by simpa using hc
        rw [e, digit_toNat u h]
        omega
    · rw [dif_neg h]
      obtain ⟨h1, h2, h3⟩ := ih (u / 10) (by omega)
      have hd := digit_toNat (u % 10) (Nat.mod_lt _ (by omega))
      refine ⟨?_, ?_, by simp⟩
      · rw [val_snoc, h1, hd]
        omega
      · intro c hc
        rcases List.mem_append.1 hc with hc | hc
        · exact h2 c hc
        · have e : c = UInt8.ofNat (48 + u % 10) := by simpa using hc
          rw [e, hd]
          omega

theorem dec_short : ∀ (k u : Nat), u < 10 ^ (k + 1) → (Lib.decDigits u).length ≤ k + 1
  | k, u, h => by
    rw [Lib.decDigits]
    by_cases h0 : u < 10
    · rw [dif_pos h0]; simp
    · rw [dif_neg h0]
      match k, h with
      | 0, h => exact absurd (by simpa using h) h0
      | k + 1, h =>
        have hu : u / 10 < 10 ^ (k + 1) := by
          rw [Nat.div_lt_iff_lt_mul (by omega), ← Nat.pow_succ]; exact h
        have := dec_short k (u / 10) hu
        simp
        omega

/-- The text of a result that is none of the four. -/
def wrapped (l : List UInt8) : List UInt8 := [82, 101, 115, 117, 108, 116, 40] ++ (l ++ [41])

end Go.Proofs.Qxb6605948aDoor
