/-
  THE WALK OF FnTombstoneDigestNamesTheRemovals WHERE THERE ARE TOMBSTONES.
-/
import Derived.Test.Qxb6605926aNeq
import Derived.Test.Qxb6605926aBuildT
import Derived.Test.Qxb6605926aBytes2
namespace Go.Proofs.Qxb6605926a
open Go.RowKit

theorem block_kept {w w' : World} (h : Below w.heap.size w w') {k : Nat} {o : Obj} (hk : w.heap[k]? = some o) : w'.heap[k]? = some o := by
  rw [h.block k (by
    rcases Nat.lt_or_ge k w.heap.size with h1 | h1
    · exact h1
    · rw [Array.getElem?_eq_none h1] at hk; cases hk)]
  exact hk

set_option maxRecDepth 100000 in
set_option maxHeartbeats 4000000 in
theorem law_T (la : Option Addr) (b off lc tc : Nat) (L T : List Ch) (x0 x1 x2 x3 x4 x5 x6 x7 x8 x9 x10 x11 x12 x13 x14 x15 : Int) (w : World) (hnL : L.length ≤ 9223372036854775807) (hnT : T.length ≤ 9223372036854775807) (hln : la = none → lc = 0) (h0 : 0 < T.length) (hL : SlA w la L) (hT : ArrS w b off T) :
    Calls Try.prog 5 #[.slice la L.length lc, .slice (some ⟨b, off, none⟩) T.length tc, .agg #[.int .u8 x0, .int .u8 x1, .int .u8 x2, .int .u8 x3, .int .u8 x4, .int .u8 x5, .int .u8 x6, .int .u8 x7, .int .u8 x8, .int .u8 x9, .int .u8 x10, .int .u8 x11, .int .u8 x12, .int .u8 x13, .int .u8 x14, .int .u8 x15]] w fun e w' => e = .returned (.bool true) ∧ Below w.heap.size w w' := by
  obtain ⟨W0, hW0⟩ : ∃ W0, W0 = w.alloc (.cells #[.int .u8 x0, .int .u8 x1, .int .u8 x2, .int .u8 x3, .int .u8 x4, .int .u8 x5, .int .u8 x6, .int .u8 x7, .int .u8 x8, .int .u8 x9, .int .u8 x10, .int .u8 x11, .int .u8 x12, .int .u8 x13, .int .u8 x14, .int .u8 x15] 23) := ⟨_, rfl⟩
  have hb0 : Below w.heap.size w W0 := by rw [hW0]; exact (Below.refl _ _).alloc (Nat.le_refl _) _
  have HB0 : Hid (Below w.heap.size w W0) := hb0
  have HL : Hid (SlA W0 la L) := hL.kept hb0
  have HT : Hid (ArrS W0 b off T) := hT.kept hb0
  have HBOX : Hid (W0.heap[w.heap.size]? = some (.cells #[.int .u8 x0, .int .u8 x1, .int .u8 x2, .int .u8 x3, .int .u8 x4, .int .u8 x5, .int .u8 x6, .int .u8 x7, .int .u8 x8, .int .u8 x9, .int .u8 x10, .int .u8 x11, .int .u8 x12, .int .u8 x13, .int .u8 x14, .int .u8 x15] 23 (0, 0))) := by rw [hW0]; exact heap_alloc_new _ _
  have HST : Hid (SlA W0 (some ⟨b, off, none⟩) T) := fun _ => ⟨b, off, rfl, HT.out⟩
  have HLN : Hid (la = none → lc = 0) := hln
  clear hL hT hb0 hln
  go_enter Try.func5, Try.ntmps5
  go_wp2_with fail
  rw [← hW0]
  clear hW0
  refine (zzBytes_any la (some ⟨b, off, none⟩) lc tc L T x0 x1 x2 x3 x4 x5 x6 x7 x8 x9 x10 x11 x12 x13 x14 x15 _ hnL hnT HL.out HST.out).mono ?_
  rintro e w1 ⟨⟨r1, rfl⟩, hb1⟩
  have HB1 : Hid (Below W0.heap.size W0 w1) := hb1
  clear hb1
  cases r1 with
  | false =>
    go_wp2_with fail
    go_ret
    exact ⟨rfl, below_trans' HB0.out HB1.out⟩
  | true =>
    go_wp2_with fail
    refine (chgBytes_any la lc L _ hnL (HL.out.kept HB1.out)).mono ?_
    rintro e w' ⟨⟨v1, rfl⟩, hw⟩
    rw [hw]
    clear hw w'
    go_wp2_with fail
    refine (chgBytes_any (some ⟨b, off, none⟩) tc T _ hnT (HST.out.kept HB1.out)).mono ?_
    rintro e w' ⟨⟨v2, rfl⟩, hw⟩
    rw [hw]
    clear hw w'
    go_wp2_with fail
    refine (addLen_any _ _ _).mono ?_
    rintro e w' ⟨⟨v3, rfl⟩, hw⟩
    rw [hw]
    clear hw w'
    go_wp2_with fail
    · go_ret
      exact ⟨rfl, below_trans' HB0.out HB1.out⟩
    · go_ret
      exact ⟨rfl, below_trans' HB0.out HB1.out⟩
    · go_ret
      exact ⟨rfl, below_trans' HB0.out HB1.out⟩
    have hnL' : L.length ≤ 65536 := by omega
    have hnT' : T.length ≤ 65536 := by omega
    refine (wellFormed_any la (some ⟨b, off, none⟩) lc tc L T _ hnL' hnT' (HL.out.kept HB1.out) (HST.out.kept HB1.out)).mono ?_
    rintro e w2 ⟨⟨r2, rfl, hwf⟩, hb2⟩
    have HB2 : Hid (Below W0.heap.size W0 w2) := below_trans' HB1.out hb2
    clear hb2 HB1
    cases r2 with
    | false =>
      go_wp2_with fail
      go_ret
      exact ⟨rfl, below_trans' HB0.out HB2.out⟩
    | true =>
    have HWF : Hid (WFc L T) := hwf rfl
    clear hwf
    have hq := fun j => cell_of_row w2 w.heap.size j _ 23 (0, 0) (block_kept HB2.out HBOX.out)
    have q0 : w2.cell? ⟨w.heap.size, 0, none⟩ = some (.int .u8 x0) := by rw [hq]; rfl
    have q1 : w2.cell? ⟨w.heap.size, 1, none⟩ = some (.int .u8 x1) := by rw [hq]; rfl
    have q2 : w2.cell? ⟨w.heap.size, 2, none⟩ = some (.int .u8 x2) := by rw [hq]; rfl
    have q3 : w2.cell? ⟨w.heap.size, 3, none⟩ = some (.int .u8 x3) := by rw [hq]; rfl
    have q4 : w2.cell? ⟨w.heap.size, 4, none⟩ = some (.int .u8 x4) := by rw [hq]; rfl
    have q5 : w2.cell? ⟨w.heap.size, 5, none⟩ = some (.int .u8 x5) := by rw [hq]; rfl
    have q6 : w2.cell? ⟨w.heap.size, 6, none⟩ = some (.int .u8 x6) := by rw [hq]; rfl
    have q7 : w2.cell? ⟨w.heap.size, 7, none⟩ = some (.int .u8 x7) := by rw [hq]; rfl
    have q8 : w2.cell? ⟨w.heap.size, 8, none⟩ = some (.int .u8 x8) := by rw [hq]; rfl
    have q9 : w2.cell? ⟨w.heap.size, 9, none⟩ = some (.int .u8 x9) := by rw [hq]; rfl
    have q10 : w2.cell? ⟨w.heap.size, 10, none⟩ = some (.int .u8 x10) := by rw [hq]; rfl
    have q11 : w2.cell? ⟨w.heap.size, 11, none⟩ = some (.int .u8 x11) := by rw [hq]; rfl
    have q12 : w2.cell? ⟨w.heap.size, 12, none⟩ = some (.int .u8 x12) := by rw [hq]; rfl
    have q13 : w2.cell? ⟨w.heap.size, 13, none⟩ = some (.int .u8 x13) := by rw [hq]; rfl
    have q14 : w2.cell? ⟨w.heap.size, 14, none⟩ = some (.int .u8 x14) := by rw [hq]; rfl
    have q15 : w2.cell? ⟨w.heap.size, 15, none⟩ = some (.int .u8 x15) := by rw [hq]; rfl
    clear hq
    as_aux_lemma =>
    go_wp2_with fail
    refine (build_T _ b off tc T x0 x1 x2 x3 x4 x5 x6 x7 x8 x9 x10 x11 x12 x13 x14 x15 w2 h0 (fun wr hwr => ?_) (fun wr hwr => toChanges_some b off tc T wr hnT' ((HT.out.kept HB2.out).kept hwr))).mono ?_
    · refine toChanges_slv _ L wr hnL' ?_
      by_cases hL0 : 0 < L.length
      · obtain ⟨b', off', ha', hA'⟩ := (HL.out.kept HB2.out).kept hwr hL0
        exact Or.inr ⟨fun e => (by rw [e] at hL0; exact absurd hL0 (by simp)), b', off', lc, (by rw [ha']), hA'⟩
      · have e0 : L = [] := List.eq_nil_of_length_eq_zero (by omega)
        exact Or.inl ⟨e0, la, lc, (by rw [e0]; rfl), HLN.out⟩
    rintro e w3 ⟨p, t, a, rfl, hp, ht, hA, hb3⟩
    have HB3 : Hid (Below W0.heap.size W0 w3) := below_trans' HB2.out hb3
    clear hb3 q0 q1 q2 q3 q4 q5 q6 q7 q8 q9 q10 q11 q12 q13 q14 q15
    have hb4 : Below w3.heap.size w3 (w3.alloc (.cells #[.pointer (some ⟨p, 0, none⟩)] 31)) := (Below.refl _ _).alloc (Nat.le_refl _) _
    have dq : ∀ j v, (#[.slice (some ⟨a, 0, none⟩) T.length T.length, .int .u8 x0, .int .u8 x1, .int .u8 x2, .int .u8 x3, .int .u8 x4, .int .u8 x5, .int .u8 x6, .int .u8 x7, .int .u8 x8, .int .u8 x9, .int .u8 x10, .int .u8 x11, .int .u8 x12, .int .u8 x13, .int .u8 x14, .int .u8 x15] : Array Value)[j]? = some v → (w3.alloc (.cells #[.pointer (some ⟨p, 0, none⟩)] 31)).cell? ⟨t, j, none⟩ = some v := fun j v hj =>
      cell_kept hb4 (by rw [cell_of_row w3 t j _ 59 (0, 0) ht]; exact hj)
    have hdig := digest_some p t x0 x1 x2 x3 x4 x5 x6 x7 x8 x9 x10 x11 x12 x13 x14 x15 _ (cell_kept hb4 hp) (dq 1 _ rfl) (dq 2 _ rfl) (dq 3 _ rfl) (dq 4 _ rfl) (dq 5 _ rfl) (dq 6 _ rfl) (dq 7 _ rfl) (dq 8 _ rfl) (dq 9 _ rfl) (dq 10 _ rfl) (dq 11 _ rfl) (dq 12 _ rfl) (dq 13 _ rfl) (dq 14 _ rfl) (dq 15 _ rfl) (dq 16 _ rfl)
    have HP : Hid (w3.cell? ⟨p, 1, none⟩ = some (.pointer (some ⟨t, 0, none⟩))) := hp
    have HTB : Hid (w3.heap[t]? = some (.cells #[.slice (some ⟨a, 0, none⟩) T.length T.length, .int .u8 x0, .int .u8 x1, .int .u8 x2, .int .u8 x3, .int .u8 x4, .int .u8 x5, .int .u8 x6, .int .u8 x7, .int .u8 x8, .int .u8 x9, .int .u8 x10, .int .u8 x11, .int .u8 x12, .int .u8 x13, .int .u8 x14, .int .u8 x15] 59 (0, 0))) := ht
    have HA : Hid (Arr w3 a T) := hA
    clear hp ht hA hb4 dq
    as_aux_lemma =>
    go_wp2_with fail
    refine hdig.mono ?_
    rintro e w4 ⟨rfl, hb4⟩
    have HB4 : Hid (Below (w3.alloc (.cells #[.pointer (some ⟨p, 0, none⟩)] 31)).heap.size (w3.alloc (.cells #[.pointer (some ⟨p, 0, none⟩)] 31)) w4) := hb4
    clear hb4 hdig
    have hg := guard36
    have hneq := neq36_same x0 x1 x2 x3 x4 x5 x6 x7 x8 x9 x10 x11 x12 x13 x14 x15
    have hn0 : ((T.length : Int) == 0) = false := by rw [beq_eq_false_iff_ne]; omega
    have hq := fun j => cell_of_row w4 w.heap.size j _ 23 (0, 0) (block_kept HB4.out (block_kept ((Below.refl _ _).alloc (Nat.le_refl _) _) (block_kept HB3.out HBOX.out)))
    have q0 : w4.cell? ⟨w.heap.size, 0, none⟩ = some (.int .u8 x0) := by rw [hq]; rfl
    have q1 : w4.cell? ⟨w.heap.size, 1, none⟩ = some (.int .u8 x1) := by rw [hq]; rfl
    have q2 : w4.cell? ⟨w.heap.size, 2, none⟩ = some (.int .u8 x2) := by rw [hq]; rfl
    have q3 : w4.cell? ⟨w.heap.size, 3, none⟩ = some (.int .u8 x3) := by rw [hq]; rfl
    have q4 : w4.cell? ⟨w.heap.size, 4, none⟩ = some (.int .u8 x4) := by rw [hq]; rfl
    have q5 : w4.cell? ⟨w.heap.size, 5, none⟩ = some (.int .u8 x5) := by rw [hq]; rfl
    have q6 : w4.cell? ⟨w.heap.size, 6, none⟩ = some (.int .u8 x6) := by rw [hq]; rfl
    have q7 : w4.cell? ⟨w.heap.size, 7, none⟩ = some (.int .u8 x7) := by rw [hq]; rfl
    have q8 : w4.cell? ⟨w.heap.size, 8, none⟩ = some (.int .u8 x8) := by rw [hq]; rfl
    have q9 : w4.cell? ⟨w.heap.size, 9, none⟩ = some (.int .u8 x9) := by rw [hq]; rfl
    have q10 : w4.cell? ⟨w.heap.size, 10, none⟩ = some (.int .u8 x10) := by rw [hq]; rfl
    have q11 : w4.cell? ⟨w.heap.size, 11, none⟩ = some (.int .u8 x11) := by rw [hq]; rfl
    have q12 : w4.cell? ⟨w.heap.size, 12, none⟩ = some (.int .u8 x12) := by rw [hq]; rfl
    have q13 : w4.cell? ⟨w.heap.size, 13, none⟩ = some (.int .u8 x13) := by rw [hq]; rfl
    have q14 : w4.cell? ⟨w.heap.size, 14, none⟩ = some (.int .u8 x14) := by rw [hq]; rfl
    have q15 : w4.cell? ⟨w.heap.size, 15, none⟩ = some (.int .u8 x15) := by rw [hq]; rfl
    have hws : w.heap.size < w4.heap.size := block_lt_of_cell q0
    have hws1 : w.heap.size < w4.heap.size + 1 := by omega
    clear hq
    as_aux_lemma =>
    go_wp2_with fail
    clear q0 q1 q2 q3 q4 q5 q6 q7 q8 q9 q10 q11 q12 q13 q14 q15 hws hws1 hneq hg hn0
    have HB34 : Hid (Below w3.heap.size w3 w4) := below_trans' ((Below.refl _ _).alloc (Nat.le_refl _) _) HB4.out
    have HC7 : Hid (w4.cell? ⟨w3.heap.size, 0, none⟩ = some (.pointer (some ⟨p, 0, none⟩))) := cell_kept HB4.out (by go_simp)
    have HTC : Hid (w4.cell? ⟨t, 0, none⟩ = some (.slice (some ⟨a, 0, none⟩) T.length T.length)) := cell_kept HB34.out (by rw [cell_of_row w3 t 0 _ 59 (0, 0) HTB.out]; rfl)
    as_aux_lemma =>
    go_loopw [11] (fun i wr => ∃ k : Nat, k ≤ T.length ∧ i = .int .i64 k ∧ Hid (Below w4.heap.size w4 wr)) (fun i _ => T.length - (intOf i).toNat)
    case atStart => exact ⟨0, by omega, rfl, ((Below.refl _ _).alloc (Nat.le_refl _) _).alloc (by simp) _⟩
    case round =>
      obtain ⟨k, hk, rfl, HBr⟩ := hrel
      by_cases hlt : k < T.length
      · have c7 := cell_kept HBr.out HC7.out
        have HA5 : Hid (Arr wr a T) := (HA.out.kept HB34.out).kept HBr.out
        have HP5 : Hid (wr.cell? ⟨p, 1, none⟩ = some (.pointer (some ⟨t, 0, none⟩))) := cell_kept HBr.out (cell_kept HB34.out HP.out)
        have HT5 : Hid (wr.cell? ⟨t, 0, none⟩ = some (.slice (some ⟨a, 0, none⟩) T.length T.length)) := cell_kept HBr.out HTC.out
        obtain ⟨z0, z1, z2, z3⟩ := (((HT.out.kept HB3.out).kept HB34.out).kept HBr.out) k hlt
        have HRM : Hid (hasRem T (T.getD k dC).id.toList) := HWF.out.2.2.2 k hlt
        generalize T.getD k dC = c at z0 z1 z2 z3 HRM
        go_wp2_with fail
        go_region_with (go_at_call 18; refine (removes_some p t a T.length T c.id _ hnT' HWF.out.1 HWF.out.2.2.1 ?_ ?_ ?_).mono ?_; exact HA5.out; exact HP5.out; exact HT5.out; rintro e w5 ⟨r, rfl, hr, hb5⟩; have hrt : r = true := hr.2 HRM.out; subst hrt; have HB5 : Hid (Below w4.heap.size w4 w5) := below_trans' HBr.out ((Below.drew (Below.refl _ _)).trans hb5); clear hb5 hr)
        all_goals
          go_wp2_with fail
          go_roundw
          case rel => exact ⟨k + 1, by omega, by go_num, HB5.out⟩
          case measure => simp [intOf]; omega
      · go_wp2_with fail
        go_loopw [12] (fun i wr => ∃ k : Nat, k ≤ L.length ∧ i = .int .i64 k ∧ Hid (Below w4.heap.size w4 wr)) (fun i _ => L.length - (intOf i).toNat)
        case atStart => exact ⟨0, by omega, rfl, HBr.out⟩
        case round =>
          clear HBr
          obtain ⟨q, hq, rfl, HBr⟩ := hrel
          by_cases hlt : q < L.length
          · have c7 := cell_kept HBr.out HC7.out
            have HA5 : Hid (Arr wr a T) := (HA.out.kept HB34.out).kept HBr.out
            have HP5 : Hid (wr.cell? ⟨p, 1, none⟩ = some (.pointer (some ⟨t, 0, none⟩))) := cell_kept HBr.out (cell_kept HB34.out HP.out)
            have HT5 : Hid (wr.cell? ⟨t, 0, none⟩ = some (.slice (some ⟨a, 0, none⟩) T.length T.length)) := cell_kept HBr.out HTC.out
            obtain ⟨b2, off2, ha2, hA2⟩ := (((HL.out.kept HB3.out).kept HB34.out).kept HBr.out) (by omega)
            obtain ⟨z0, z1, z2, z3⟩ := hA2 q hlt
            clear hA2
            subst ha2
            have HRM : Hid (¬ hasRem T (L.getD q dC).id.toList) := HWF.out.2.1 q hlt
            generalize L.getD q dC = c at z0 z1 z2 z3 HRM
            go_wp2_with fail
            go_region_with (go_at_call 18; refine (removes_some p t a T.length T c.id _ hnT' HWF.out.1 HWF.out.2.2.1 ?_ ?_ ?_).mono ?_; exact HA5.out; exact HP5.out; exact HT5.out; rintro e w5 ⟨r, rfl, hr, hb5⟩; have hrt : r = false := (by cases r with | false => rfl | true => exact absurd (hr.1 rfl) HRM.out); subst hrt; have HB5 : Hid (Below w4.heap.size w4 w5) := below_trans' HBr.out ((Below.drew (Below.refl _ _)).trans hb5); clear hb5 hr)
            all_goals
              go_wp2_with fail
              go_roundw
              case rel => exact ⟨q + 1, by omega, by go_num, HB5.out⟩
              case measure => simp [intOf]; omega
          · go_wp2_with fail
            go_ret
            exact ⟨rfl, below_trans' (below_trans' (below_trans' HB0.out HB3.out) HB34.out) HBr.out⟩

end Go.Proofs.Qxb6605926a
