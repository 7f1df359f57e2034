/-
  THE WALK OF zzParseResultText AT A NEGATIVE NUMBER; AND AT THE OTHER THREE WORDS.
-/
import Derived.Test.Qxb6605948aDoorParse
namespace Go.Proofs.Qxb6605948aDoor
open Go.RowKit

theorem parse_deadline (w : World) : Calls Tryd.prog 4 #[.string ⟨#[100, 101, 97, 100, 108, 105, 110, 101]⟩] w fun e w' => e = .returned (.tuple #[.int .i64 2, .bool true]) ∧ w' = w := by
  go_enter Tryd.func4, Tryd.ntmps4
  go_wp2
  go_ret2
  exact ⟨rfl, rfl⟩

theorem parse_error (w : World) : Calls Tryd.prog 4 #[.string ⟨#[101, 114, 114, 111, 114]⟩] w fun e w' => e = .returned (.tuple #[.int .i64 3, .bool true]) ∧ w' = w := by
  go_enter Tryd.func4, Tryd.ntmps4
  go_wp2
  go_ret2
  exact ⟨rfl, rfl⟩

theorem parse_forced (w : World) : Calls Tryd.prog 4 #[.string ⟨#[102, 111, 114, 99, 101, 100]⟩] w fun e w' => e = .returned (.tuple #[.int .i64 4, .bool true]) ∧ w' = w := by
  go_enter Tryd.func4, Tryd.ntmps4
  go_wp2
  go_ret2
  exact ⟨rfl, rfl⟩

theorem ret_pair {a b : Int} (h : a = b) : Ending.returned (.tuple #[.int .i64 a, .bool true]) = .returned (.tuple #[.int .i64 b, .bool true]) := by rw [h]

set_option maxHeartbeats 400000 in
theorem parse_neg (s B D : ByteArray) (u : Nat) (V : Nat → Nat) (w : World) (hsz : s.size = D.size + 9) (hle : D.size ≤ 20) (hpos : 1 ≤ D.size)
    (e1 : (s.toList == [111, 107]) = false) (e2 : (s.toList == [100, 101, 97, 100, 108, 105, 110, 101]) = false) (e3 : (s.toList == [101, 114, 114, 111, 114]) = false) (e4 : (s.toList == [102, 111, 114, 99, 101, 100]) = false)
    (hx : (s.extract 0 7).toList = [82, 101, 115, 117, 108, 116, 40]) (hl : s[D.size + 8] = 41) (hb : s.extract 7 (D.size + 8) = B) (hBs : B.size = D.size + 1) (hB0 : B[0] = 45) (hB1 : B.extract 1 (D.size + 1) = D) (hd : ∀ k (h : k < D.size), 48 ≤ D[k].toNat ∧ D[k].toNat ≤ 57)
    (hV0 : V 0 = 0) (hVs : ∀ k (h : k < D.size), V (k + 1) = V k * 10 + (D[k].toNat - 48)) (hVu : ∀ k, V k ≤ u) (hVn : V D.size = u) (hu0 : 1 ≤ u) (hu : u ≤ 9223372036854775808) :
    Calls Tryd.prog 4 #[.string s] w fun e w' => e = .returned (.tuple #[.int .i64 (-(u : Int)), .bool true]) ∧ w' = w := by
  have HD : Hid _ := hd
  have HV0 : Hid _ := hV0
  have HVs : Hid _ := hVs
  have HVu : Hid _ := hVu
  have HVn : Hid _ := hVn
  clear hd hV0 hVs hVu hVn
  go_enter Tryd.func4, Tryd.ntmps4
  go_upto_region 12 with fail
  go_upto_region 14 with fail
  go_upto_region 19 with fail
  clear e1 e2 e3 e4 hx hl hb hB0 hB1
  have hne0 : ((D.size : Int) == 0) = false := by rw [beq_eq_false_iff_ne]; omega
  have hle' : (D.size : Int) ≤ 20 := by omega
  go_wp2_with fail
  go_loop [6, 7] (fun m i => ∃ k : Nat, k ≤ D.size ∧ i = .int .i64 k ∧ m = .int .u64 (V k)) (fun _ i => D.size - (intOf i).toNat)
  case atStart => exact ⟨0, by omega, rfl, by rw [HV0.out]; rfl⟩
  case round =>
    obtain ⟨k, hk, rfl, rfl⟩ := hrel
    by_cases hlt : k < D.size
    · obtain ⟨hc1, hc2⟩ := HD.out k hlt
      have hs := HVs.out k hlt
      have hu1 := HVu.out (k + 1)
      obtain ⟨v, hv⟩ : ∃ v : Nat, v = V k := ⟨_, rfl⟩
      obtain ⟨d, hdd⟩ : ∃ d : Nat, D[k].toNat = 48 + d := ⟨D[k].toNat - 48, by omega⟩
      rw [← hv, hdd] at hs
      rw [← hv]
      have hd9 : d ≤ 9 := by omega
      have hvb : v * 10 + d ≤ 9223372036854775808 := by omega
      have HS : Hid (V (k + 1) = v * 10 + d) := by rw [hs]; show v * 10 + (48 + d - 48) = _; omega
      clear hs hu1 hv hc1 hc2
      go_wp2_with fail
      refine ⟨⟨_, _, _, _, ⟨k + 1, by omega, by go_num, by rw [HS.out]; go_num⟩, rfl, rfl, rfl, rfl⟩, ?_⟩
      simp [intOf]
      omega
    · have e : k = D.size := by omega
      rw [e, HVn.out]
      have hu' : (u : Int) ≤ 9223372036854775808 := by omega
      have hu1 : ((u : Int) == 0) = false := by rw [beq_eq_false_iff_ne]; omega
      go_wp2_with fail
      go_ret2
      exact ⟨ret_pair (by omega), rfl⟩

end Go.Proofs.Qxb6605948aDoor
