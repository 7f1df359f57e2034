/-
  ZZcompareSourceGroups, orderKey.
-/
import Derived.Test.Qxb6607687aCmp
import Derived.Laws.BitsAllLaws
namespace Go.Proofs.Qxb6607687a
open Go.RowKit

set_option maxHeartbeats 1000000 in
theorem zzCompare_any (s0 s1 s2 s3 g0 g1 g2 g3 t0 t1 t2 t3 h0 h1 h2 h3 : Int) (w : World) (bs : Bytes4 (v4 s0 s1 s2 s3)) (bg : Bytes4 (v4 g0 g1 g2 g3)) (bt : Bytes4 (v4 t0 t1 t2 t3)) (bh : Bytes4 (v4 h0 h1 h2 h3)) :
    Calls Try.prog 8 #[.agg #[.int .u8 s0, .int .u8 s1, .int .u8 s2, .int .u8 s3], .agg #[.int .u8 g0, .int .u8 g1, .int .u8 g2, .int .u8 g3], .agg #[.int .u8 t0, .int .u8 t1, .int .u8 t2, .int .u8 t3], .agg #[.int .u8 h0, .int .u8 h1, .int .u8 h2, .int .u8 h3]] w fun e w' =>
      e = .returned (.int .i64 (cmpSG (num4 (v4 s0 s1 s2 s3)) (num4 (v4 g0 g1 g2 g3)) (num4 (v4 t0 t1 t2 t3)) (num4 (v4 h0 h1 h2 h3)))) ∧ Below w.heap.size w w' := by
  have hc := fun w => compareSG_any s0 s1 s2 s3 g0 g1 g2 g3 t0 t1 t2 t3 h0 h1 h2 h3 w bs bg bt bh
  generalize cmpSG (num4 (v4 s0 s1 s2 s3)) (num4 (v4 g0 g1 g2 g3)) (num4 (v4 t0 t1 t2 t3)) (num4 (v4 h0 h1 h2 h3)) = r at hc ⊢
  clear bs bg bt bh
  go_enter Try.func8, Try.ntmps8
  go_wp2_with fail
  refine (hc _).mono ?_
  rintro e w1 ⟨rfl, hb⟩
  have HB : Hid (Below w.heap.size w w1) := (((((Below.refl _ _).alloc (Nat.le_refl _) _).alloc (by simp) _).alloc (by simp; omega) _).alloc (by simp; omega) _).trans (hb.mono (by simp; omega))
  clear hb
  go_wp2_with fail
  go_ret
  exact ⟨rfl, HB.out⟩

/-- The number that the first k bytes make, behind a number. -/
def pre (X : Nat → Int) (v : Int) : Nat → Int
  | 0 => v
  | k + 1 => pre X v k * 256 + X k

theorem pre_step {X : Nat → Int} (hX : Bytes4 X) (v : Int) (hv : 0 ≤ v) (k : Nat) (hk : k < 4) : 0 ≤ pre X v k ∧ pre X v k * 256 + X k ≤ (v + 1) * 4294967296 - 1 := by
  have x0 := hX 0 (by omega); have x1 := hX 1 (by omega); have x2 := hX 2 (by omega); have x3 := hX 3 (by omega)
  match k, hk with
  | 0, _ => simp only [pre]; omega
  | 1, _ => simp only [pre]; omega
  | 2, _ => simp only [pre]; omega
  | 3, _ => simp only [pre]; omega

theorem pre_four (X : Nat → Int) (v : Int) : pre X v 4 = v * 4294967296 + num4 X := by
  simp only [pre, num4]
  omega

theorem num4_bd {X : Nat → Int} (hX : Bytes4 X) : 0 ≤ num4 X ∧ num4 X ≤ 4294967295 := by
  have x0 := hX 0 (by omega); have x1 := hX 1 (by omega); have x2 := hX 2 (by omega); have x3 := hX 3 (by omega)
  unfold num4
  omega

theorem or_low (v x : Int) (hv : 0 ≤ v) (hx : 0 ≤ x) (hx2 : x ≤ 255) (hb : v * 256 + x ≤ 18446744073709551615) : bits BinOp.or IntKind.u64 (v * 256) x = v * 256 + x := by
  have h := u64_or (v * 256) x (by omega) (by omega) hx (by omega)
  rw [h]
  have hj := nat_join 8 (v * 256).toNat x.toNat (by omega) (by omega)
  rw [hj]
  omega

set_option maxHeartbeats 1000000 in
theorem orderKey_any (s0 s1 s2 s3 g0 g1 g2 g3 : Int) (w : World) (bs : Bytes4 (v4 s0 s1 s2 s3)) (bg : Bytes4 (v4 g0 g1 g2 g3)) :
    Calls Try.prog 10 #[.agg #[.int .u8 s0, .int .u8 s1, .int .u8 s2, .int .u8 s3], .agg #[.int .u8 g0, .int .u8 g1, .int .u8 g2, .int .u8 g3]] w fun e w' => e = .returned (.int .u64 (num4 (v4 g0 g1 g2 g3) * 4294967296 + num4 (v4 s0 s1 s2 s3))) ∧ Below w.heap.size w w' := by
  obtain ⟨W, hW⟩ : ∃ W, W = ((w.alloc (.cells #[.int .u8 s0, .int .u8 s1, .int .u8 s2, .int .u8 s3] 22)).alloc (.cells #[.int .u8 g0, .int .u8 g1, .int .u8 g2, .int .u8 g3] 22)) := ⟨_, rfl⟩
  have HB : Hid (Below w.heap.size w W) := by rw [hW]; exact ((Below.refl _ _).alloc (Nat.le_refl _) _).alloc (by simp) _
  have RS : Hid (Row4 W w.heap.size 0 (v4 s0 s1 s2 s3)) := by rw [hW]; exact row_of (by go_simp) (by go_simp) (by go_simp) (by go_simp)
  have RG : Hid (Row4 W (w.heap.size + 1) 0 (v4 g0 g1 g2 g3)) := by rw [hW]; exact row_of (by go_simp) (by go_simp) (by go_simp) (by go_simp)
  have BS : Hid _ := bs
  have BG : Hid _ := bg
  clear bs bg
  go_enter Try.func10, Try.ntmps10
  go_wp2_with fail
  rw [← hW]
  clear hW
  go_loop [5, 6] (fun m i => ∃ k : Nat, k ≤ 4 ∧ i = .int .i64 k ∧ m = .int .u64 (pre (v4 g0 g1 g2 g3) 0 k)) (fun _ i => 4 - (intOf i).toNat)
  case atStart => exact ⟨0, by omega, rfl, rfl⟩
  case round =>
    obtain ⟨k, hk, rfl, rfl⟩ := hrel
    by_cases hlt : k < 4
    · have z := RG.out k hlt
      rw [Nat.zero_add] at z
      have hx := BG.out k hlt
      obtain ⟨v, hv⟩ : ∃ v, v = pre (v4 g0 g1 g2 g3) 0 k := ⟨_, rfl⟩
      obtain ⟨x, hxx⟩ : ∃ x, x = v4 g0 g1 g2 g3 k := ⟨_, rfl⟩
      rw [← hxx] at hx z
      rw [← hv]
      have hb := pre_step BG.out 0 (by omega) k hlt
      rw [← hv, ← hxx] at hb
      have hor := or_low v x hb.1 hx.1 hx.2 (by omega)
      have HS : Hid (pre (v4 g0 g1 g2 g3) 0 (k + 1) = v * 256 + x) := by rw [hv, hxx]; rfl
      clear hv hxx
      obtain ⟨hb1, hb2⟩ := hb
      obtain ⟨hx1, hx2⟩ := hx
      go_wp2_with fail
      go_round
      case rel => exact ⟨k + 1, by omega, by go_num, by rw [HS.out]⟩
      case measure => simp [intOf]; omega
    · have e : k = 4 := by omega
      rw [e, pre_four]
      have hG := num4_bd BG.out
      obtain ⟨G, hGG⟩ : ∃ G, G = num4 (v4 g0 g1 g2 g3) := ⟨_, rfl⟩
      have HG : Hid (G = num4 (v4 g0 g1 g2 g3)) := hGG
      rw [← hGG] at hG
      rw [← hGG, show (0 * 4294967296 + G) = G by omega]
      clear hGG
      go_wp2_with fail
      go_loop [5, 7] (fun m i => ∃ k : Nat, k ≤ 4 ∧ i = .int .i64 k ∧ m = .int .u64 (pre (v4 s0 s1 s2 s3) G k)) (fun _ i => 4 - (intOf i).toNat)
      case atStart => exact ⟨0, by omega, rfl, rfl⟩
      case round =>
        obtain ⟨q, hq, rfl, rfl⟩ := hrel
        by_cases hlt2 : q < 4
        · have z := RS.out q hlt2
          rw [Nat.zero_add] at z
          have hx := BS.out q hlt2
          obtain ⟨v, hv⟩ : ∃ v, v = pre (v4 s0 s1 s2 s3) G q := ⟨_, rfl⟩
          obtain ⟨x, hxx⟩ : ∃ x, x = v4 s0 s1 s2 s3 q := ⟨_, rfl⟩
          rw [← hxx] at hx z
          rw [← hv]
          have hb := pre_step BS.out G hG.1 q hlt2
          rw [← hv, ← hxx] at hb
          have hb3 : v * 256 + x ≤ 18446744073709551615 := by omega
          have hor := or_low v x hb.1 hx.1 hx.2 hb3
          have HS : Hid (pre (v4 s0 s1 s2 s3) G (q + 1) = v * 256 + x) := by rw [hv, hxx]; rfl
          clear hv hxx
          obtain ⟨hb1, hb2⟩ := hb
          obtain ⟨hx1, hx2⟩ := hx
          clear hb2
          go_wp2_with fail
          go_round
          case rel => exact ⟨q + 1, by omega, by go_num, by rw [HS.out]⟩
          case measure => simp [intOf]; omega
        · have e2 : q = 4 := by omega
          rw [e2, pre_four]
          go_wp2_with fail
          go_ret
          exact ⟨ret_int (by rw [HG.out]), HB.out⟩

end Go.Proofs.Qxb6607687a
