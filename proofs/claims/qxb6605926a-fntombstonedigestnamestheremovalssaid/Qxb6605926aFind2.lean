/-
  find, Removes.
-/
import Derived.Test.Qxb6605926aFind
import Derived.Laws.StructEq
namespace Go.Proofs.Qxb6605926a
open Go.RowKit

theorem guard56 : Try.prog.eqGuardType Try.prog.depth 56 = false := by kernel_rfl
theorem stood56 : Try.prog.stoodInHeld 56 = false := by kernel_rfl
theorem eql56 (a b c a' b' c' : ByteArray) (n n' : Int) (w : World) :
    (binOp .eql 56 (.agg #[.string a, .string b, .string c, .int .u64 n]) (.agg #[.string a', .string b', .string c', .int .u64 n'])).run Try.prog w =
      .ok (.bool ((a.toList == a'.toList) && ((b.toList == b'.toList) && ((c.toList == c'.toList) && (n == n'))))) w := by
  have h1 := stood56
  rw [run_eql_struct, run_equalIn_struct w 9999 56 _ _ (by kernel_rfl) h1]
  cases e1 : (a.toList == a'.toList) <;> cases e2 : (b.toList == b'.toList) <;> cases e3 : (c.toList == c'.toList) <;> cases e4 : (n == n') <;> go_simp

set_option maxHeartbeats 1000000 in
theorem find_any (cap a : Nat) (T : List Ch) (id : ByteArray) (w : World) (hn : T.length ≤ 65536) (hs : SortedC T) (hp : PlainRem T) (hA : Arr w a T) :
    Calls Try.prog 27 #[.slice (some ⟨a, 0, none⟩) T.length cap, .agg #[.string ⟨#[45]⟩, .string id, .string ⟨#[]⟩, .int .u64 0]] w fun e w' =>
      ∃ b : Bool, e = .returned (.bool b) ∧ (b = true ↔ hasRem T id.toList) ∧ Below w.heap.size w w' := by
  have hb2 : Below w.heap.size w ((w.alloc (.cells #[.slice (some ⟨a, 0, none⟩) T.length cap] 46)).alloc (.cells #[.string ⟨#[45]⟩, .string id, .string ⟨#[]⟩, .int .u64 0] 56)) :=
    ((Below.refl _ _).alloc (Nat.le_refl _) _).alloc (by simp) _
  have hse := search_any cap w.heap.size (w.heap.size + 1) a T ⟨⟨#[45]⟩, id, ⟨#[]⟩, 0⟩ ((w.alloc (.cells #[.slice (some ⟨a, 0, none⟩) T.length cap] 46)).alloc (.cells #[.string ⟨#[45]⟩, .string id, .string ⟨#[]⟩, .int .u64 0] 56))
    hn hs (by go_simp) (hA.kept hb2) ⟨by go_simp, by go_simp, by go_simp, by go_simp⟩
  have HA : Hid (Arr w a T) := hA
  have HS : Hid (SortedC T) := hs
  have HP : Hid (PlainRem T) := hp
  have HB : Hid _ := hb2
  clear hA hs hp hb2
  go_enter Try.func27, Try.ntmps27
  go_wp2_with fail
  refine hse.mono ?_
  rintro e w1 ⟨i, rfl, hi, hlo, hhi, hb1⟩
  have x0 : w1.cell? ⟨w.heap.size, 0, none⟩ = some (.slice (some ⟨a, 0, none⟩) T.length cap) := cell_kept hb1 (by go_simp)
  have y0 : w1.cell? ⟨w.heap.size + 1, 0, none⟩ = some (.string ⟨#[45]⟩) := cell_kept hb1 (by go_simp)
  have y1 : w1.cell? ⟨w.heap.size + 1, 1, none⟩ = some (.string id) := cell_kept hb1 (by go_simp)
  have y2 : w1.cell? ⟨w.heap.size + 1, 2, none⟩ = some (.string ⟨#[]⟩) := cell_kept hb1 (by go_simp)
  have y3 : w1.cell? ⟨w.heap.size + 1, 3, none⟩ = some (.int .u64 0) := cell_kept hb1 (by go_simp)
  have HF := found_iff HS.out HP.out id i hlo hhi
  have HF' : Hid _ := HF
  have HB1 : Hid _ := hb1
  clear HF hlo hhi hb1
  by_cases hlt : i < T.length
  · obtain ⟨z0, z1, z2, z3⟩ := (HA.out.kept HB.out).kept HB1.out i hlt
    have hg := guard56
    have he := eql56 (T.getD i dC).op (T.getD i dC).id (T.getD i dC).addr ⟨#[45]⟩ id ⟨#[]⟩ (T.getD i dC).inc 0
    obtain ⟨b, hb⟩ : ∃ b : Bool, b = (((T.getD i dC).op.toList == (⟨#[45]⟩ : ByteArray).toList) && (((T.getD i dC).id.toList == id.toList) && (((T.getD i dC).addr.toList == (⟨#[]⟩ : ByteArray).toList) && ((T.getD i dC).inc == 0)))) := ⟨_, rfl⟩
    rw [← hb] at he
    have Hb : Hid _ := hb
    clear hb
    generalize (T.getD i dC) = c at *
    go_wp2_with fail
    go_quiet (fail)
    go_wp2
    go_ret
    refine ⟨b, rfl, ?_, below_drewN (below_trans' HB.out HB1.out) _⟩
    rw [← HF'.out, Hb.out]
    have e1 : (⟨#[45]⟩ : ByteArray).toList = minus := ByteArray.toList_eq _
    have e2 : (⟨#[]⟩ : ByteArray).toList = [] := ByteArray.toList_eq _
    simp [hlt, e1, e2]
  · have hd : decide ((i : Int) < (T.length : Int)) = false := by simp; omega
    go_wp2_with fail
    go_quiet (fail)
    go_wp2
    go_ret
    refine ⟨_, rfl, ?_, below_drewN (below_trans' HB.out HB1.out) _⟩
    rw [← HF'.out]
    simp [hlt]

set_option maxHeartbeats 1000000 in
theorem removes_none0 (id : ByteArray) (w : World) : Calls Try.prog 18 #[.agg #[.pointer none], .string id] w fun e w' => e = .returned (.bool false) ∧ Below w.heap.size w w' := by
  go_enter Try.func18, Try.ntmps18
  go_wp2_with (go_at_call 24; refine (tombs_none _).mono ?_; rintro e w' ⟨rfl, rfl⟩)
  go_ret
  exact ⟨rfl, ((Below.refl _ _).alloc (Nat.le_refl _) _).alloc (by simp) _⟩

set_option maxHeartbeats 1000000 in
theorem removes_none1 (b : Nat) (id : ByteArray) (w : World) (hc : w.cell? ⟨b, 1, none⟩ = some (.pointer none)) : Calls Try.prog 18 #[.agg #[.pointer (some ⟨b, 0, none⟩)], .string id] w fun e w' => e = .returned (.bool false) ∧ Below w.heap.size w w' := by
  have hc1 := tombs_some b none (w.alloc (.cells #[.pointer (some ⟨b, 0, none⟩)] 31)) (cell_kept ((Below.refl _ _).alloc (Nat.le_refl _) _) hc)
  clear hc
  go_enter Try.func18, Try.ntmps18
  go_wp2_with (go_at_call 24; refine hc1.mono ?_; rintro e w' ⟨rfl, rfl⟩)
  go_ret
  exact ⟨rfl, ((Below.refl _ _).alloc (Nat.le_refl _) _).alloc (by simp) _⟩

set_option maxHeartbeats 1000000 in
theorem removes_some (b t a cap : Nat) (T : List Ch) (id : ByteArray) (w : World) (hn : T.length ≤ 65536) (hs : SortedC T) (hp : PlainRem T) (hA : Arr w a T)
    (hc : w.cell? ⟨b, 1, none⟩ = some (.pointer (some ⟨t, 0, none⟩))) (ht : w.cell? ⟨t, 0, none⟩ = some (.slice (some ⟨a, 0, none⟩) T.length cap)) :
    Calls Try.prog 18 #[.agg #[.pointer (some ⟨b, 0, none⟩)], .string id] w fun e w' => ∃ r : Bool, e = .returned (.bool r) ∧ (r = true ↔ hasRem T id.toList) ∧ Below w.heap.size w w' := by
  have hb1 : Below w.heap.size w (w.alloc (.cells #[.pointer (some ⟨b, 0, none⟩)] 31)) := (Below.refl _ _).alloc (Nat.le_refl _) _
  have hb2 : Below w.heap.size w ((w.alloc (.cells #[.pointer (some ⟨b, 0, none⟩)] 31)).alloc (.cells #[.pointer (some ⟨b, 0, none⟩)] 31)) := hb1.alloc (by simp) _
  have hc1 := tombs_some b (some ⟨t, 0, none⟩) (w.alloc (.cells #[.pointer (some ⟨b, 0, none⟩)] 31)) (cell_kept hb1 hc)
  have hf := find_any cap a T id _ hn hs hp (hA.kept hb2)
  have ht2 := cell_kept hb2 ht
  clear hc ht hs hp hA
  have HB2 : Hid _ := hb2
  clear hb1 hb2
  go_enter Try.func18, Try.ntmps18
  go_wp2_with (first | (go_at_call 24; refine hc1.mono ?_; rintro e w' ⟨rfl, rfl⟩) | (go_at_call 27; refine hf.mono ?_; rintro e w' ⟨r, rfl, hr, hbr⟩))
  go_ret
  exact ⟨r, rfl, hr, below_trans' HB2.out hbr⟩

end Go.Proofs.Qxb6605926a
