/-
  wellFormed.
-/
import Derived.Test.Qxb6605926aSort
namespace Go.Proofs.Qxb6605926a
open Go.RowKit

/-- What a slice of changes of whatever length holds. -/
def SlA (w : World) (a : Option Addr) (L : List Ch) : Prop := 0 < L.length → ∃ b off, a = some ⟨b, off, none⟩ ∧ ArrS w b off L

theorem SlA.kept {w w' : World} {a : Option Addr} {L : List Ch} (h : SlA w a L) (hb : Below w.heap.size w w') : SlA w' a L := fun h0 =>
  let ⟨b, off, ha, hA⟩ := h h0
  ⟨b, off, ha, hA.kept hb⟩

/-- It returned a bool, and true only where p holds. -/
def RetW (e : Ending) (p : Prop) : Prop := ∃ r : Bool, e = .returned (.bool r) ∧ (r = true → p)
theorem RetW.no {p : Prop} : RetW (.returned (.bool false)) p := ⟨false, rfl, fun k => (by cases k)⟩
theorem RetW.yes {p : Prop} (h : p) : RetW (.returned (.bool true)) p := ⟨true, rfl, fun _ => h⟩

theorem sorted_any (a : Option Addr) (cap : Nat) (L : List Ch) (w : World) (hn : L.length ≤ 65536) (h : SlA w a L) : Calls Try.prog 19 #[.slice a L.length cap] w fun e w' => ∃ r : Bool, e = .returned (.bool r) ∧ (r = true → SortedC L) ∧ Below w.heap.size w w' := by
  by_cases h0 : 0 < L.length
  · obtain ⟨b, off, rfl, hA⟩ := h h0
    exact sorted_some b off cap L w h0 hn hA
  · have e : L.length = 0 := by omega
    rw [e]
    exact (sorted_empty a cap w).mono fun e w' ⟨he, hw⟩ => ⟨true, he, fun _ i hi => by omega, by rw [hw]; exact Below.refl _ _⟩

theorem hasRem_any (a : Option Addr) (cap : Nat) (T : List Ch) (id : ByteArray) (w : World) (hn : T.length ≤ 65536) (h : SlA w a T) : Calls Try.prog 20 #[.slice a T.length cap, .string id] w fun e w' => RetB e (hasRem T id.toList) ∧ w' = w := by
  by_cases h0 : 0 < T.length
  · obtain ⟨b, off, rfl, hA⟩ := h h0
    exact hasRem_some b off cap T id w hn hA
  · have e : T.length = 0 := by omega
    rw [e]
    exact (hasRem_empty a cap id w).mono fun e w' ⟨he, hw⟩ => ⟨by rw [he]; exact RetB.no fun ⟨j, hj, _⟩ => by omega, hw⟩

/-- What the law needs of a well-formed configuration. -/
def WFc (L T : List Ch) : Prop :=
  SortedC T ∧ (∀ j, j < L.length → ¬ hasRem T (L.getD j dC).id.toList) ∧ PlainRem T ∧ ∀ j, j < T.length → hasRem T (T.getD j dC).id.toList

set_option maxHeartbeats 4000000 in
theorem wellFormed_any (la ta : Option Addr) (lc tc : Nat) (L T : List Ch) (w : World) (hnL : L.length ≤ 65536) (hnT : T.length ≤ 65536) (hL : SlA w la L) (hT : SlA w ta T) :
    Calls Try.prog 9 #[.slice la L.length lc, .slice ta T.length tc] w fun e w' => RetW e (WFc L T) ∧ Below w.heap.size w w' := by
  have HL : Hid (SlA w la L) := hL
  have HT : Hid (SlA w ta T) := hT
  clear hL hT
  go_enter Try.func9, Try.ntmps9
  go_wp2_with fail
  refine (sorted_any la lc L _ hnL HL.out).mono ?_
  rintro e w1 ⟨r1, rfl, _, hb1⟩
  have HB1 : Hid _ := hb1
  clear hb1
  cases r1 with
  | false =>
    go_wp2_with fail
    go_ret
    exact ⟨RetW.no, HB1.out⟩
  | true =>
    go_wp2_with fail
    refine (sorted_any ta tc T _ hnT (HT.out.kept HB1.out)).mono ?_
    rintro e w2 ⟨r2, rfl, hs2, hb2⟩
    have HB2 : Hid (Below w.heap.size w w2) := below_trans' HB1.out hb2
    clear hb2
    cases r2 with
    | false =>
      go_wp2_with fail
      go_ret
      exact ⟨RetW.no, HB2.out⟩
    | true =>
      have HS : Hid (SortedC T) := hs2 rfl
      clear hs2
      go_wp2_with fail
      go_loop [5] (fun i => ∃ k : Nat, k ≤ L.length ∧ i = .int .i64 k ∧ Hid (∀ j, j < k → ¬ hasRem T (L.getD j dC).id.toList)) (fun i => L.length - (intOf i).toNat)
      case atStart => exact ⟨0, by omega, rfl, fun j hj => by omega⟩
      case round =>
        obtain ⟨k, hk, rfl, HI⟩ := hrel
        by_cases hlt : k < L.length
        · obtain ⟨b, off, ha, hA⟩ := HL.out.kept HB2.out (by omega)
          obtain ⟨z0, z1, z2, z3⟩ := hA k hlt
          subst ha
          obtain ⟨c, hc⟩ : ∃ c, c = L.getD k dC := ⟨_, rfl⟩
          rw [← hc] at z0 z1 z2 z3
          have HC : Hid _ := hc
          clear hc hA
          have hrem := hasRem_any ta tc T c.id w2 hnT (HT.out.kept HB2.out)
          by_cases ho : c.op.toList = [45]
          · go_wp2_with fail
            go_ret
            exact ⟨RetW.no, HB2.out⟩
          · have ho' : (c.op.toList == [45]) = false := by simpa using ho
            clear ho
            go_wp2_with fail
            refine hrem.mono ?_
            rintro e w3 ⟨⟨r3, rfl, hr3⟩, rfl⟩
            cases r3 with
            | true =>
              go_wp2_with fail
              go_ret
              exact ⟨RetW.no, HB2.out⟩
            | false =>
              have HR : Hid (¬ hasRem T c.id.toList) := fun h => by simpa using hr3.2 h
              clear hr3
              go_wp2_with fail
              go_round
              case rel =>
                refine ⟨k + 1, by omega, by go_num, fun j hj => ?_⟩
                by_cases e : j = k
                · subst e
                  rw [← HC.out]
                  exact HR.out
                · exact HI.out j (by omega)
              case measure => simp [intOf]; omega
        · have HI' : Hid (∀ j, j < L.length → ¬ hasRem T (L.getD j dC).id.toList) := fun j hj => HI.out j (by omega)
          clear HI
          go_wp2_with fail
          go_loop [6] (fun i => ∃ k : Nat, k ≤ T.length ∧ i = .int .i64 k ∧ Hid (∀ j, j < k → ((T.getD j dC).op.toList = minus → (T.getD j dC).addr.toList = [] ∧ (T.getD j dC).inc = 0) ∧ hasRem T (T.getD j dC).id.toList)) (fun i => T.length - (intOf i).toNat)
          case atStart => exact ⟨0, by omega, rfl, fun j hj => by omega⟩
          case round =>
            obtain ⟨q, hq, rfl, HI⟩ := hrel
            by_cases hqt : q < T.length
            · obtain ⟨b, off, ha, hA⟩ := HT.out.kept HB2.out (by omega)
              obtain ⟨z0, z1, z2, z3⟩ := hA q hqt
              have hrem := hasRem_any ta tc T (T.getD q dC).id w2 hnT (HT.out.kept HB2.out)
              subst ha
              obtain ⟨c, hc⟩ : ∃ c, c = T.getD q dC := ⟨_, rfl⟩
              rw [← hc] at z0 z1 z2 z3 hrem
              have HC : Hid _ := hc
              clear hc hA
              by_cases ho : c.op.toList = [45]
              · by_cases had : c.addr.toList.isEmpty = true
                · by_cases hin : (c.inc != 0) = true
                  · go_wp2_with fail
                    go_ret
                    exact ⟨RetW.no, HB2.out⟩
                  · have hin' : (c.inc != 0) = false := by simpa using hin
                    clear hin
                    have HF : Hid (c.addr.toList = [] ∧ c.inc = 0) := ⟨by simpa using had, by simpa using hin'⟩
                    go_wp2_with fail
                    refine hrem.mono ?_
                    rintro e w3 ⟨⟨r3, rfl, hr3⟩, rfl⟩
                    cases r3 with
                    | false =>
                      go_wp2_with fail
                      go_ret
                      exact ⟨RetW.no, HB2.out⟩
                    | true =>
                      have HR : Hid (hasRem T c.id.toList) := hr3.1 rfl
                      clear hr3
                      go_wp2_with fail
                      go_round
                      case rel =>
                        refine ⟨q + 1, by omega, by go_num, fun j hj => ?_⟩
                        by_cases e : j = q
                        · subst e
                          rw [← HC.out]
                          exact ⟨fun _ => HF.out, HR.out⟩
                        · exact HI.out j (by omega)
                      case measure => simp [intOf]; omega
                · have had' : c.addr.toList.isEmpty = false := by simpa using had
                  clear had
                  go_wp2_with fail
                  go_ret
                  exact ⟨RetW.no, HB2.out⟩
              · have ho' : (c.op.toList == [45]) = false := by simpa using ho
                have HO : Hid (¬ c.op.toList = minus) := ho
                clear ho
                go_wp2_with fail
                refine hrem.mono ?_
                rintro e w3 ⟨⟨r3, rfl, hr3⟩, rfl⟩
                cases r3 with
                | false =>
                  go_wp2_with fail
                  go_ret
                  exact ⟨RetW.no, HB2.out⟩
                | true =>
                  have HR : Hid (hasRem T c.id.toList) := hr3.1 rfl
                  clear hr3
                  go_wp2_with fail
                  go_round
                  case rel =>
                    refine ⟨q + 1, by omega, by go_num, fun j hj => ?_⟩
                    by_cases e : j = q
                    · subst e
                      rw [← HC.out]
                      exact ⟨fun k => absurd k HO.out, HR.out⟩
                    · exact HI.out j (by omega)
                  case measure => simp [intOf]; omega
            · go_wp2_with fail
              go_ret
              exact ⟨RetW.yes ⟨HS.out, HI'.out, fun j hj => (HI.out j (by omega)).1, fun j hj => (HI.out j (by omega)).2⟩, HB2.out⟩

end Go.Proofs.Qxb6605926a
