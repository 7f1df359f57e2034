/-
  Two arrays of four bytes compared; the comparison's order.
-/
import Derived.Test.Qxb6607687aOrder
import Derived.Test.Qxb6607687aNums
import Derived.Laws.StructEq
import Derived.ChangeKeysEq
namespace Go.Proofs.Qxb6607687a
open Go.RowKit

theorem cells5' : Try.prog.cellsOf 5 = 1 := by kernel_rfl
theorem info5 : (Try.prog.info? 5).isSome = true := by kernel_rfl

def eq4 (a b c d a' b' c' d' : Int) : Bool := (a == a') && ((b == b') && ((c == c') && (d == d')))

theorem item_step (xs ys : Array Value) (w : World) (i : Nat) (is : List Nat) (x y : Int) (r : Bool) (hx : (part 5 xs (i * 1)).run Try.prog w = .ok (.int .u8 x) w) (hy : (part 5 ys (i * 1)).run Try.prog w = .ok (.int .u8 y) w)
    (h : (Op.eqItems 9999 5 1 xs ys is).run Try.prog w = .ok r w) : (Op.eqItems 9999 5 1 xs ys (i :: is)).run Try.prog w = .ok ((x == y) && r) w := by
  have he : (Op.equalIn 9999 5 (.int .u8 x) (.int .u8 y)).run Try.prog w = .ok (x == y) w := run_equalIn_int (P := Try.prog) w 9998 5 .u8 .u8 x y Try.underlying5
  simp only [Op.eqItems, Sem.run_bind, hx, hy, he, Result.andThen_ok]
  generalize (x == y) = b
  cases b with
  | true => simpa using h
  | false => simp

theorem equal22 (a b c d a' b' c' d' : Int) (w : World) : (Op.equalIn 10000 22 (.agg #[.int .u8 a, .int .u8 b, .int .u8 c, .int .u8 d]) (.agg #[.int .u8 a', .int .u8 b', .int .u8 c', .int .u8 d'])).run Try.prog w = .ok (eq4 a b c d a' b' c' d') w := by
  obtain ⟨i, hi⟩ := Option.isSome_iff_exists.1 info5
  have r4 : List.range 4 = [0, 1, 2, 3] := rfl
  have p0 : ∀ x0 x1 x2 x3 : Int, (part 5 #[.int .u8 x0, .int .u8 x1, .int .u8 x2, .int .u8 x3] (0 * 1)).run Try.prog w = .ok (.int .u8 x0) w := fun _ _ _ _ => by kernel_rfl
  have p1 : ∀ x0 x1 x2 x3 : Int, (part 5 #[.int .u8 x0, .int .u8 x1, .int .u8 x2, .int .u8 x3] (1 * 1)).run Try.prog w = .ok (.int .u8 x1) w := fun _ _ _ _ => by kernel_rfl
  have p2 : ∀ x0 x1 x2 x3 : Int, (part 5 #[.int .u8 x0, .int .u8 x1, .int .u8 x2, .int .u8 x3] (2 * 1)).run Try.prog w = .ok (.int .u8 x2) w := fun _ _ _ _ => by kernel_rfl
  have p3 : ∀ x0 x1 x2 x3 : Int, (part 5 #[.int .u8 x0, .int .u8 x1, .int .u8 x2, .int .u8 x3] (3 * 1)).run Try.prog w = .ok (.int .u8 x3) w := fun _ _ _ _ => by kernel_rfl
  rw [run_equalIn_array w 9999 _ _ Try.underlying22 hi, cells5', r4]
  have hn : (Op.eqItems 9999 5 1 #[.int .u8 a, .int .u8 b, .int .u8 c, .int .u8 d] #[.int .u8 a', .int .u8 b', .int .u8 c', .int .u8 d'] []).run Try.prog w = .ok true w := by simp [Op.eqItems]
  have h := item_step _ _ w _ _ _ _ _ (p0 a b c d) (p0 a' b' c' d') (item_step _ _ w _ _ _ _ _ (p1 a b c d) (p1 a' b' c' d') (item_step _ _ w _ _ _ _ _ (p2 a b c d) (p2 a' b' c' d') (item_step _ _ w _ _ _ _ _ (p3 a b c d) (p3 a' b' c' d') hn)))
  rw [Bool.and_true] at h
  exact h

theorem eql22 (a b c d a' b' c' d' : Int) (w : World) : (binOp .eql 22 (.agg #[.int .u8 a, .int .u8 b, .int .u8 c, .int .u8 d]) (.agg #[.int .u8 a', .int .u8 b', .int .u8 c', .int .u8 d'])).run Try.prog w = .ok (.bool (eq4 a b c d a' b' c' d')) w := by
  rw [run_eql_struct, equal22]; rfl
theorem neq22 (a b c d a' b' c' d' : Int) (w : World) : (binOp .neq 22 (.agg #[.int .u8 a, .int .u8 b, .int .u8 c, .int .u8 d]) (.agg #[.int .u8 a', .int .u8 b', .int .u8 c', .int .u8 d'])).run Try.prog w = .ok (.bool (!eq4 a b c d a' b' c' d')) w := by
  rw [run_neq_struct, equal22]; rfl

theorem eq4_num {a b c d a' b' c' d' : Int} (h : Bytes4 (v4 a b c d)) (h' : Bytes4 (v4 a' b' c' d')) : eq4 a b c d a' b' c' d' = true ↔ num4 (v4 a b c d) = num4 (v4 a' b' c' d') := by
  have x0 : 0 ≤ a ∧ a ≤ 255 := h 0 (by omega)
  have x1 : 0 ≤ b ∧ b ≤ 255 := h 1 (by omega)
  have x2 : 0 ≤ c ∧ c ≤ 255 := h 2 (by omega)
  have x3 : 0 ≤ d ∧ d ≤ 255 := h 3 (by omega)
  have y0 : 0 ≤ a' ∧ a' ≤ 255 := h' 0 (by omega)
  have y1 : 0 ≤ b' ∧ b' ≤ 255 := h' 1 (by omega)
  have y2 : 0 ≤ c' ∧ c' ≤ 255 := h' 2 (by omega)
  have y3 : 0 ≤ d' ∧ d' ≤ 255 := h' 3 (by omega)
  have e1 : num4 (v4 a b c d) = a * 16777216 + b * 65536 + c * 256 + d := rfl
  have e2 : num4 (v4 a' b' c' d') = a' * 16777216 + b' * 65536 + c' * 256 + d' := rfl
  rw [e1, e2]
  simp only [eq4, Bool.and_eq_true, beq_iff_eq]
  omega

/-! ### The order -/
theorem sg_bd (x y : Int) : -1 ≤ sg x y ∧ sg x y ≤ 1 := by
  unfold sg
  split
  · omega
  · split <;> omega
theorem sg_zero {x y : Int} : sg x y = 0 ↔ x = y := by
  unfold sg
  split
  · omega
  · split <;> omega
theorem sg_neg (x y : Int) : sg y x = -sg x y := by
  rcases Int.lt_trichotomy x y with h | h | h
  · rw [sg_lt h, sg_gt h]; rfl
  · rw [sg_eq h, sg_eq h.symm]; rfl
  · rw [sg_gt h, sg_lt h]
theorem sg_le {x y : Int} : sg x y ≤ 0 ↔ x ≤ y := by
  unfold sg
  split
  · omega
  · split <;> omega
theorem sg_ge {x y : Int} : 0 ≤ sg x y ↔ y ≤ x := by
  unfold sg
  split
  · omega
  · split <;> omega

/-- Where the groups differ the sources do not count. -/
theorem cmpSG_group {S G T R S' T' : Int} (h : G ≠ R) : cmpSG S G T R = cmpSG S' G T' R := by
  unfold cmpSG
  rw [orI_not _ (fun e => h (sg_zero.1 e)), orI_not _ (fun e => h (sg_zero.1 e))]

theorem order_any (s0 s1 s2 s3 g0 g1 g2 g3 t0 t1 t2 t3 u0 u1 u2 u3 y0 y1 y2 y3 z0 z1 z2 z3 : Int) (w : World) (bs : Bytes4 (v4 s0 s1 s2 s3)) (bg : Bytes4 (v4 g0 g1 g2 g3)) (bt : Bytes4 (v4 t0 t1 t2 t3)) (bu : Bytes4 (v4 u0 u1 u2 u3)) (bY : Bytes4 (v4 y0 y1 y2 y3)) (bz : Bytes4 (v4 z0 z1 z2 z3)) :
    Calls Try.prog 4 #[.agg #[.int .u8 s0, .int .u8 s1, .int .u8 s2, .int .u8 s3], .agg #[.int .u8 g0, .int .u8 g1, .int .u8 g2, .int .u8 g3], .agg #[.int .u8 t0, .int .u8 t1, .int .u8 t2, .int .u8 t3], .agg #[.int .u8 u0, .int .u8 u1, .int .u8 u2, .int .u8 u3], .agg #[.int .u8 y0, .int .u8 y1, .int .u8 y2, .int .u8 y3], .agg #[.int .u8 z0, .int .u8 z1, .int .u8 z2, .int .u8 z3]] w fun e w' => e = .returned (.bool true) ∧ Below w.heap.size w w' := by
  have nS := num4_bd bs
  have nG := num4_bd bg
  have nT := num4_bd bt
  have nU := num4_bd bu
  have nY := num4_bd bY
  have nZ := num4_bd bz
  have ab := cmpSG_num (num4 (v4 s0 s1 s2 s3)) (num4 (v4 g0 g1 g2 g3)) (num4 (v4 t0 t1 t2 t3)) (num4 (v4 u0 u1 u2 u3)) nS nT
  have ba := cmpSG_num (num4 (v4 t0 t1 t2 t3)) (num4 (v4 u0 u1 u2 u3)) (num4 (v4 s0 s1 s2 s3)) (num4 (v4 g0 g1 g2 g3)) nT nS
  have bc := cmpSG_num (num4 (v4 t0 t1 t2 t3)) (num4 (v4 u0 u1 u2 u3)) (num4 (v4 y0 y1 y2 y3)) (num4 (v4 z0 z1 z2 z3)) nT nY
  have ac := cmpSG_num (num4 (v4 s0 s1 s2 s3)) (num4 (v4 g0 g1 g2 g3)) (num4 (v4 y0 y1 y2 y3)) (num4 (v4 z0 z1 z2 z3)) nS nY
  have q1 := eq4_num bs bt
  have q2 := eq4_num bg bu
  refine order_core s0 s1 s2 s3 g0 g1 g2 g3 t0 t1 t2 t3 u0 u1 u2 u3 y0 y1 y2 y3 z0 z1 z2 z3 (cmpSG (num4 (v4 s0 s1 s2 s3)) (num4 (v4 g0 g1 g2 g3)) (num4 (v4 t0 t1 t2 t3)) (num4 (v4 u0 u1 u2 u3))) (cmpSG (num4 (v4 t0 t1 t2 t3)) (num4 (v4 u0 u1 u2 u3)) (num4 (v4 y0 y1 y2 y3)) (num4 (v4 z0 z1 z2 z3))) (cmpSG (num4 (v4 s0 s1 s2 s3)) (num4 (v4 g0 g1 g2 g3)) (num4 (v4 y0 y1 y2 y3)) (num4 (v4 z0 z1 z2 z3))) (eq4 s0 s1 s2 s3 t0 t1 t2 t3) (eq4 g0 g1 g2 g3 u0 u1 u2 u3) w
    (fun wr => zzCompare_any s0 s1 s2 s3 g0 g1 g2 g3 t0 t1 t2 t3 u0 u1 u2 u3 wr bs bg bt bu)
    (fun wr => ?_)
    (fun wr => zzCompare_any t0 t1 t2 t3 u0 u1 u2 u3 y0 y1 y2 y3 z0 z1 z2 z3 wr bt bu bY bz)
    (fun wr => zzCompare_any s0 s1 s2 s3 g0 g1 g2 g3 y0 y1 y2 y3 z0 z1 z2 z3 wr bs bg bY bz)
    (fun hq wr => ?_)
    (fun wr => eql22 s0 s1 s2 s3 t0 t1 t2 t3 wr) (fun wr => eql22 g0 g1 g2 g3 u0 u1 u2 u3 wr) (fun wr => neq22 g0 g1 g2 g3 u0 u1 u2 u3 wr) ?_ ?_ ?_ ?_ ?_
  · have h := zzCompare_any t0 t1 t2 t3 u0 u1 u2 u3 s0 s1 s2 s3 g0 g1 g2 g3 wr bt bu bs bg
    rw [ba, sg_neg, ← ab] at h
    exact h
  · have hne : num4 (v4 g0 g1 g2 g3) ≠ num4 (v4 u0 u1 u2 u3) := fun e => by rw [q2.2 e] at hq; exact Bool.noConfusion hq
    have h := zzCompare_any y0 y1 y2 y3 g0 g1 g2 g3 s0 s1 s2 s3 u0 u1 u2 u3 wr bY bg bs bu
    rw [cmpSG_group (S' := num4 (v4 s0 s1 s2 s3)) (T' := num4 (v4 t0 t1 t2 t3)) hne] at h
    exact h
  · rw [ab]; exact (sg_bd _ _).1
  · rw [ab]; exact (sg_bd _ _).2
  · rw [ab, sg_zero, q1, q2]
    omega
  · rw [ab, bc, ac, sg_le, sg_le, sg_le]
    omega
  · rw [ab, bc, ac, sg_ge, sg_ge, sg_ge]
    omega

end Go.Proofs.Qxb6607687a
