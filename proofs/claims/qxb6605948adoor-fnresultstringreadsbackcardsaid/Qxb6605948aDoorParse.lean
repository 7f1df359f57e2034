/-
  THE WALK OF zzParseResultText.
-/
import Derived.Test.Qxb6605948aDoorRows
import Derived.Test.Qxb6605948aDoorPlain
import Derived.WalkKit
import Derived.WalkSpells
import Derived.WalkLawsBesides
import Derived.Outline
import Derived.Deep.DeepCutAuto
namespace Go.Proofs.Qxb6605948aDoor
open Go.RowKit

theorem parse_ok (w : World) : Calls Tryd.prog 4 #[.string ⟨#[111, 107]⟩] w fun e w' => e = .returned (.tuple #[.int .i64 1, .bool true]) ∧ w' = w := by
  go_enter Tryd.func4, Tryd.ntmps4
  go_wp2
  go_ret2
  exact ⟨rfl, rfl⟩

set_option maxHeartbeats 400000 in
theorem parse_pos (s D : ByteArray) (u : Nat) (V : Nat → Nat) (w : World) (hsz : s.size = D.size + 8) (hle : D.size ≤ 20) (hpos : 1 ≤ D.size)
    (e1 : (s.toList == [111, 107]) = false) (e2 : (s.toList == [100, 101, 97, 100, 108, 105, 110, 101]) = false) (e3 : (s.toList == [101, 114, 114, 111, 114]) = false) (e4 : (s.toList == [102, 111, 114, 99, 101, 100]) = false)
    (hx : (s.extract 0 7).toList = [82, 101, 115, 117, 108, 116, 40]) (hl : s[D.size + 7] = 41) (hb : s.extract 7 (D.size + 7) = D) (hd : ∀ k (h : k < D.size), 48 ≤ D[k].toNat ∧ D[k].toNat ≤ 57)
    (hV0 : V 0 = 0) (hVs : ∀ k (h : k < D.size), V (k + 1) = V k * 10 + (D[k].toNat - 48)) (hVu : ∀ k, V k ≤ u) (hVn : V D.size = u) (hu : u ≤ 9223372036854775807) :
    Calls Tryd.prog 4 #[.string s] w fun e w' => e = .returned (.tuple #[.int .i64 u, .bool true]) ∧ w' = w := by
  have HD : Hid _ := hd
  have HV0 : Hid _ := hV0
  have HVs : Hid _ := hVs
  have HVu : Hid _ := hVu
  have HVn : Hid _ := hVn
  have hd0 := hd 0 (by omega)
  clear hd hV0 hVs hVu hVn
  go_enter Tryd.func4, Tryd.ntmps4
  go_upto_region 12 with fail
  go_upto_region 14 with fail
  go_upto_region 19 with fail
  clear e1 e2 e3 e4 hx hl hb hd0
  have hne0 : ((D.size : Int) == 0) = false := by rw [beq_eq_false_iff_ne]; omega
  have hle' : (D.size : Int) ≤ 20 := by omega
  go_wp2_with fail
  go_loop [6, 7] (fun m i => ∃ k : Nat, k ≤ D.size ∧ i = .int .i64 k ∧ m = .int .u64 (V k)) (fun _ i => D.size - (intOf i).toNat)
  case atStart => exact ⟨0, by omega, rfl, by rw [HV0.out]; rfl⟩
  case round =>
    obtain ⟨k, hk, rfl, rfl⟩ := hrel
    by_cases hlt : k < D.size
    · obtain ⟨hc1, hc2⟩ := HD.out k hlt
      have hs := HVs.out k hlt
      have hu1 := HVu.out (k + 1)
      obtain ⟨v, hv⟩ : ∃ v : Nat, v = V k := ⟨_, rfl⟩
      obtain ⟨d, hdd⟩ : ∃ d : Nat, D[k].toNat = 48 + d := ⟨D[k].toNat - 48, by omega⟩
      rw [← hv, hdd] at hs
      rw [← hv]
      have hd9 : d ≤ 9 := by omega
      have hvb : v * 10 + d ≤ 9223372036854775807 := by omega
      have HS : Hid (V (k + 1) = v * 10 + d) := by rw [hs]; show v * 10 + (48 + d - 48) = _; omega
      clear hs hu1 hv hc1 hc2
      go_wp2_with fail
      refine ⟨⟨_, _, _, _, ⟨k + 1, by omega, by go_num, by rw [HS.out]; go_num⟩, rfl, rfl, rfl, rfl⟩, ?_⟩
      simp [intOf]
      omega
    · have e : k = D.size := by omega
      rw [e, HVn.out]
      have hu' : (u : Int) ≤ 9223372036854775807 := by omega
      go_wp2_with fail
      go_ret2
      exact ⟨rfl, rfl⟩

end Go.Proofs.Qxb6605948aDoor
