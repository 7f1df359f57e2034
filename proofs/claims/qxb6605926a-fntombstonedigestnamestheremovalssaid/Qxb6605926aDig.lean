/-
  TombstoneDigest.
-/
import Derived.Test.Qxb6605926aFind2
namespace Go.Proofs.Qxb6605926a
open Go.RowKit

/-- Sixteen zeros. -/
def zeros16 : Array Value := #[.int .u8 0, .int .u8 0, .int .u8 0, .int .u8 0, .int .u8 0, .int .u8 0, .int .u8 0, .int .u8 0, .int .u8 0, .int .u8 0, .int .u8 0, .int .u8 0, .int .u8 0, .int .u8 0, .int .u8 0, .int .u8 0]

set_option maxHeartbeats 1000000 in
theorem digest_none0 (w : World) : Calls Try.prog 17 #[.agg #[.pointer none]] w fun e w' => e = .returned (.tuple #[.agg zeros16, .bool false]) ∧ Below w.heap.size w w' := by
  go_enter Try.func17, Try.ntmps17
  go_wp2_with (go_at_call 24; refine (tombs_none _).mono ?_; rintro e w' ⟨rfl, rfl⟩)
  refine bodyPost_ret (v := .tuple #[.agg zeros16, .bool false]) (by simp [results, Try.results17, go_sem, zeros16]) rfl ⟨rfl, ?_⟩
  exact (((Below.refl _ _).alloc (Nat.le_refl _) _).alloc (by simp) _).alloc (by simp; omega) _

set_option maxHeartbeats 1000000 in
theorem digest_none1 (b : Nat) (w : World) (hc : w.cell? ⟨b, 1, none⟩ = some (.pointer none)) : Calls Try.prog 17 #[.agg #[.pointer (some ⟨b, 0, none⟩)]] w fun e w' => e = .returned (.tuple #[.agg zeros16, .bool false]) ∧ Below w.heap.size w w' := by
  have hc1 := fun o1 o2 => tombs_some b none ((w.alloc o1).alloc o2) (cell_kept (((Below.refl _ _).alloc (Nat.le_refl _) _).alloc (by simp) _) hc)
  clear hc
  go_enter Try.func17, Try.ntmps17
  go_wp2_with (go_at_call 24; refine (hc1 _ _).mono ?_; rintro e w' ⟨rfl, rfl⟩)
  refine bodyPost_ret (v := .tuple #[.agg zeros16, .bool false]) (by simp [results, Try.results17, go_sem, zeros16]) rfl ⟨rfl, ?_⟩
  exact (((Below.refl _ _).alloc (Nat.le_refl _) _).alloc (by simp) _).alloc (by simp; omega) _

set_option maxHeartbeats 1000000 in
theorem digest_some (b t : Nat) (x0 x1 x2 x3 x4 x5 x6 x7 x8 x9 x10 x11 x12 x13 x14 x15 : Int) (w : World) (hc : w.cell? ⟨b, 1, none⟩ = some (.pointer (some ⟨t, 0, none⟩)))
    (h0 : w.cell? ⟨t, 1, none⟩ = some (.int .u8 x0)) (h1 : w.cell? ⟨t, 2, none⟩ = some (.int .u8 x1)) (h2 : w.cell? ⟨t, 3, none⟩ = some (.int .u8 x2)) (h3 : w.cell? ⟨t, 4, none⟩ = some (.int .u8 x3)) (h4 : w.cell? ⟨t, 5, none⟩ = some (.int .u8 x4)) (h5 : w.cell? ⟨t, 6, none⟩ = some (.int .u8 x5)) (h6 : w.cell? ⟨t, 7, none⟩ = some (.int .u8 x6)) (h7 : w.cell? ⟨t, 8, none⟩ = some (.int .u8 x7)) (h8 : w.cell? ⟨t, 9, none⟩ = some (.int .u8 x8)) (h9 : w.cell? ⟨t, 10, none⟩ = some (.int .u8 x9)) (h10 : w.cell? ⟨t, 11, none⟩ = some (.int .u8 x10)) (h11 : w.cell? ⟨t, 12, none⟩ = some (.int .u8 x11)) (h12 : w.cell? ⟨t, 13, none⟩ = some (.int .u8 x12)) (h13 : w.cell? ⟨t, 14, none⟩ = some (.int .u8 x13)) (h14 : w.cell? ⟨t, 15, none⟩ = some (.int .u8 x14)) (h15 : w.cell? ⟨t, 16, none⟩ = some (.int .u8 x15)) :
    Calls Try.prog 17 #[.agg #[.pointer (some ⟨b, 0, none⟩)]] w fun e w' => e = .returned (.tuple #[.agg #[.int .u8 x0, .int .u8 x1, .int .u8 x2, .int .u8 x3, .int .u8 x4, .int .u8 x5, .int .u8 x6, .int .u8 x7, .int .u8 x8, .int .u8 x9, .int .u8 x10, .int .u8 x11, .int .u8 x12, .int .u8 x13, .int .u8 x14, .int .u8 x15], .bool true]) ∧ Below w.heap.size w w' := by
  have hc1 := fun o1 o2 => tombs_some b (some ⟨t, 0, none⟩) ((w.alloc o1).alloc o2) (cell_kept (((Below.refl _ _).alloc (Nat.le_refl _) _).alloc (by simp) _) hc)
  have htb : t < w.heap.size := block_lt_of_cell h0
  have htb1 : t < w.heap.size + 1 := by omega
  have htb2 : t < w.heap.size + 1 + 1 := by omega
  clear hc
  go_enter Try.func17, Try.ntmps17
  go_wp2_with (go_at_call 24; refine (hc1 _ _).mono ?_; rintro e w' ⟨rfl, rfl⟩)
  refine bodyPost_ret (v := .tuple #[.agg #[.int .u8 x0, .int .u8 x1, .int .u8 x2, .int .u8 x3, .int .u8 x4, .int .u8 x5, .int .u8 x6, .int .u8 x7, .int .u8 x8, .int .u8 x9, .int .u8 x10, .int .u8 x11, .int .u8 x12, .int .u8 x13, .int .u8 x14, .int .u8 x15], .bool true]) (by simp [results, Try.results17, go_sem]) rfl ⟨rfl, ?_⟩
  exact (((Below.refl _ _).alloc (Nat.le_refl _) _).alloc (by simp) _).alloc (by simp; omega) _

end Go.Proofs.Qxb6605926a
