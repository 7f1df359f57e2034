/-
  Two digests compared.
-/
import Derived.Test.Qxb6605926aDig
import Derived.Laws.StructEq
import Derived.ChangeKeysEq
namespace Go.Proofs.Qxb6605926a
open Go.RowKit

theorem guard36 : Try.prog.eqGuardType Try.prog.depth 36 = false := by kernel_rfl
theorem cells5 : Try.prog.cellsOf 5 = 1 := by kernel_rfl

theorem items_same (zs : Array Value) (w : World) : ∀ is : List Nat, (∀ i ∈ is, ∃ n : Int, (part 5 zs (i * 1)).run Try.prog w = .ok (.int .u8 n) w) → (Op.eqItems 9999 5 1 zs zs is).run Try.prog w = .ok true w
  | [], _ => by simp [Op.eqItems]
  | i :: is, h => by
    obtain ⟨n, hn⟩ := h i (by simp)
    have ih := items_same zs w is fun j hj => h j (by simp [hj])
    have he := run_equalIn_int (P := Try.prog) w 9998 5 .u8 .u8 n n Try.underlying5
    simp only [Op.eqItems, Sem.run_bind, hn, Result.andThen_ok, he]
    simpa using ih

theorem info5 : (Try.prog.info? 5).isSome = true := by kernel_rfl

theorem neq36_same (x0 x1 x2 x3 x4 x5 x6 x7 x8 x9 x10 x11 x12 x13 x14 x15 : Int) (w : World) :
    (binOp .neq 36 (.agg #[.int .u8 x0, .int .u8 x1, .int .u8 x2, .int .u8 x3, .int .u8 x4, .int .u8 x5, .int .u8 x6, .int .u8 x7, .int .u8 x8, .int .u8 x9, .int .u8 x10, .int .u8 x11, .int .u8 x12, .int .u8 x13, .int .u8 x14, .int .u8 x15]) (.agg #[.int .u8 x0, .int .u8 x1, .int .u8 x2, .int .u8 x3, .int .u8 x4, .int .u8 x5, .int .u8 x6, .int .u8 x7, .int .u8 x8, .int .u8 x9, .int .u8 x10, .int .u8 x11, .int .u8 x12, .int .u8 x13, .int .u8 x14, .int .u8 x15])).run Try.prog w = .ok (.bool false) w := by
  obtain ⟨i, hi⟩ := Option.isSome_iff_exists.1 info5
  have hp : ∀ j ∈ List.range 16, ∃ n : Int, (part 5 #[.int .u8 x0, .int .u8 x1, .int .u8 x2, .int .u8 x3, .int .u8 x4, .int .u8 x5, .int .u8 x6, .int .u8 x7, .int .u8 x8, .int .u8 x9, .int .u8 x10, .int .u8 x11, .int .u8 x12, .int .u8 x13, .int .u8 x14, .int .u8 x15] (j * 1)).run Try.prog w = .ok (.int .u8 n) w := by
    intro j hj
    have hj' : j < 16 := by simpa using hj
    match j, hj' with
    | 0, _ => exact ⟨x0, by kernel_rfl⟩
    | 1, _ => exact ⟨x1, by kernel_rfl⟩
    | 2, _ => exact ⟨x2, by kernel_rfl⟩
    | 3, _ => exact ⟨x3, by kernel_rfl⟩
    | 4, _ => exact ⟨x4, by kernel_rfl⟩
    | 5, _ => exact ⟨x5, by kernel_rfl⟩
    | 6, _ => exact ⟨x6, by kernel_rfl⟩
    | 7, _ => exact ⟨x7, by kernel_rfl⟩
    | 8, _ => exact ⟨x8, by kernel_rfl⟩
    | 9, _ => exact ⟨x9, by kernel_rfl⟩
    | 10, _ => exact ⟨x10, by kernel_rfl⟩
    | 11, _ => exact ⟨x11, by kernel_rfl⟩
    | 12, _ => exact ⟨x12, by kernel_rfl⟩
    | 13, _ => exact ⟨x13, by kernel_rfl⟩
    | 14, _ => exact ⟨x14, by kernel_rfl⟩
    | 15, _ => exact ⟨x15, by kernel_rfl⟩
    | k + 16, h => exact absurd h (by omega)
  rw [run_neq_struct, run_equalIn_array w 9999 _ _ Try.underlying36 hi, cells5, items_same _ w _ hp]
  rfl

theorem neq36_zeros (w : World) : (binOp .neq 36 (.agg zeros16) (.agg zeros16)).run Try.prog w = .ok (.bool false) w :=
  neq36_same 0 0 0 0 0 0 0 0 0 0 0 0 0 0 0 0 w

end Go.Proofs.Qxb6605926a
