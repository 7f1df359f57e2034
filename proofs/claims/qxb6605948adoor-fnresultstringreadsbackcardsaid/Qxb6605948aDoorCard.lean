/-
  THE LAW FnResultStringReadsBack: the walk, the row, the tied card.
-/
import Derived.Test.Qxb6605948aDoorText
import Derived.Test.Qxb6605948aDoorTie
import Derived.Test.Qxb6605948aDoorCards
import Derived.ProofKit
import Derived.LaidMore
import Derived.OpenShut
import Derived.Stop.Joined
import Derived.SevenTiedAt
import Derived.Lib.LaidTab
namespace Go.Proofs.Qxb6605948aDoor
open Go.ChangeShapes Go.WideShapes Go.ChangeAt Go.RowKit

set_option maxHeartbeats 400000 in
/-- The law, where the text and its reading back are known. -/
theorem law_of (n : Int) (s : ByteArray) (w : World)
    (hS : Calls Tryd.prog 5 #[.int .i64 n] w fun e w' => e = .returned (.string s) ∧ Below w.heap.size w w')
    (hP : ∀ w1, Calls Tryd.prog 4 #[.string s] w1 fun e w' => e = .returned (.tuple #[.int .i64 n, .bool true]) ∧ w' = w1) :
    Calls Tryd.prog 3 #[.int .i64 n] w fun e w' => e = .returned (.bool true) ∧ Below w.heap.size w w' := by
  go_enter Tryd.func3, Tryd.ntmps3
  go_wp2_with fail
  refine hS.mono ?_
  rintro e w1 ⟨rfl, hb⟩
  have HB : Hid (Below w.heap.size w w1) := hb
  clear hb
  go_wp2_with fail
  refine (hP w1).mono ?_
  rintro e w2 ⟨rfl, rfl⟩
  go_wp2_with fail
  go_ret
  exact ⟨rfl, HB.out⟩

theorem law_any (n : Int) (w : World) (h0 : -9223372036854775808 ≤ n) (h1 : n ≤ 9223372036854775807) (htab : Lib.TabIs Tryd.prog w "internal/strconv.uint64pow10" .u64 Lib.pow10Tab) :
    Calls Tryd.prog 3 #[.int .i64 n] w fun e w' => e = .returned (.bool true) ∧ Below w.heap.size w w' := by
  by_cases e1 : n = 1
  · subst e1
    exact law_of 1 _ w ((string_1 w).mono fun e w' ⟨he, hw⟩ => ⟨he, by rw [hw]; exact Below.refl _ _⟩) parse_ok
  by_cases e2 : n = 2
  · subst e2
    exact law_of 2 _ w ((string_2 w).mono fun e w' ⟨he, hw⟩ => ⟨he, by rw [hw]; exact Below.refl _ _⟩) parse_deadline
  by_cases e3 : n = 3
  · subst e3
    exact law_of 3 _ w ((string_3 w).mono fun e w' ⟨he, hw⟩ => ⟨he, by rw [hw]; exact Below.refl _ _⟩) parse_error
  by_cases e4 : n = 4
  · subst e4
    exact law_of 4 _ w ((string_4 w).mono fun e w' ⟨he, hw⟩ => ⟨he, by rw [hw]; exact Below.refl _ _⟩) parse_forced
  refine law_of n (textOf (Lib.itoa n)) w (string_any n w h0 h1 ⟨e1, e2, e3, e4⟩ htab) ?_
  intro w1
  by_cases hn : n < 0
  · have h := reads_neg n.natAbs w1 (by omega) (by omega)
    have e : -((n.natAbs : Nat) : Int) = n := by omega
    have ei : Lib.itoa n = 45 :: Lib.decDigits n.natAbs := by unfold Lib.itoa; rw [if_pos hn]
    rw [e] at h
    rw [ei]
    exact h
  · have h := reads_pos n.toNat w1 (by omega)
    have e : ((n.toNat : Nat) : Int) = n := by omega
    have ei : Lib.itoa n = Lib.decDigits n.toNat := by unfold Lib.itoa; rw [if_neg hn]
    rw [e] at h
    rw [ei]
    exact h

theorem own : ownKnob Tryd.prog.godebug = none := by kernel_rfl
theorem g32 : Tryd.prog.globalNamed "math/bits.deBruijn32tab" = some 1 := by kernel_rfl
theorem g64 : Tryd.prog.globalNamed "math/bits.deBruijn64tab" = some 2 := by kernel_rfl
theorem gPow : Tryd.prog.globalNamed "internal/strconv.uint64pow10" = some 0 := by kernel_rfl
theorem tPow : (Tryd.prog.globals[0]?).map (·.type) = some 38 := by kernel_rfl
theorem cells27 : Tryd.prog.cellsOf 27 = 1 := by kernel_rfl
theorem cells38 : Tryd.prog.cellsOf 38 = 20 := by kernel_rfl

/-- What the row lists. -/
def listed : List (String × DataW Unit) := [("math/bits.deBruijn32tab", Rows.laid_math_bits_deBruijn32tab), ("math/bits.deBruijn64tab", Rows.laid_math_bits_deBruijn64tab), ("internal/strconv.uint64pow10", Rows.laid_internal_strconv_uint64pow10)]

theorem pow_is : (Rows.laid_internal_strconv_uint64pow10 : DataW Unit) = Lib.tabData .u64 Lib.pow10Tab := rfl

/-- The listed table, as the contract of strconv.Itoa asks it. -/
theorem of_laid {W : World} (h : laidMetH Tryd.prog listed W) : Lib.TabIs Tryd.prog W "internal/strconv.uint64pow10" .u64 Lib.pow10Tab := by
  rw [MakeChecks.laidMetH_plain _ _ _ (by kernel_rfl)] at h
  obtain ⟨ps, ⟨g0, t0, cs0, f0, p0, q0, hg0, ht0, hv0, hd0, ⟨g1, t1, cs1, f1, p1, q1, hg1, ht1, hv1, hd1, ⟨g2, t2, cs2, f2, p2, q2, hg2, ht2, hv2, hd2, _, _⟩, _⟩, _⟩, _, _⟩ := h
  obtain rfl := Option.some.inj (gPow.symm.trans hg2)
  obtain rfl := Option.some.inj (tPow.symm.trans ht2)
  rw [pow_is] at hd2
  unfold Lib.TabIs
  rw [hv2, ← Lib.cells_of_tab Tryd.underlying38 Tryd.underlying27 cells27 cells38 hd2]

theorem door_met (os : Os) (args : Array Value) : laidMetH Tryd.prog listed ((World.doorLaid Tryd.prog 400 os).forCall (fun _ _ => 0) ⟨#[], args, []⟩).memory :=
  laidMetH_of_parts3 (fuel := 8) (laidMet_of_run' 8 (by kernel_rfl) (by kernel_rfl)) (by kernel_rfl) (by kernel_rfl)

set_option maxRecDepth 100000 in
theorem lifted (os : Os) (started : os.Started) (H : Type) (enc : TypeId × Value → H) :
    ReturnsInHanded {} Tryd.checked os 3 .any (fun w args => (Rows.fnResultStringReadsBackSpec.pre enc Tryd.prog Tryd.f3 [] false w args ∧ laidMetH Tryd.prog listed w) ∧ sizedMet enc Tryd.prog Tryd.f3 (OpenSpec.ofChange Rows.fnResultStringReadsBackSpec) false w args)
      (Rows.fnResultStringReadsBackSpec.post enc Tryd.prog Tryd.f3 false true false false) := by
  refine returnsInHanded_of_change_and (C := Tryd.checked) (X := fun w _ => laidMetH Tryd.prog listed w) (fun _ _ _ hh h => h.of_heap hh) own started (by kernel_rfl) Tryd.func3
    (ChangeSpec.witness_shaped (enc := enc) (C := Tryd.checked) (os := os) (X := fun w _ => laidMetH Tryd.prog listed w) false (World.doorLaid Tryd.prog 400 os) #[.int .i64 0] 8 rfl (World.shaped_of_RefB (by kernel_rfl) (by kernel_rfl)) (by kernel_rfl) (by kernel_rfl) (by kernel_rfl) (door_met os _)) ?_
  intro W base args ds gs before hval0 hW _ _ hL _
  have hval : ∀ (j : Nat) t v, Tryd.f3.params[j]? = some t → args[j]? = some v → Value.okWide Tryd.prog W .any base t v := hval0
  have hW' := hW
  obtain ⟨p, q, hA0, hV, rfl, hfz, hnd⟩ := hW
  have hA : DataW.TrodAll enc Tryd.prog W 0 (fun _ => true) true Tryd.f3.params.toList args.toList ds p := hA0
  rw [Tryd.params3] at hA hval
  obtain ⟨v0, d0, rfl, rfl, h0⟩ := trodAll_one hA
  obtain ⟨rfl, rfl⟩ := trodVars_none hV
  obtain ⟨n, rfl, rfl, rfl, wn⟩ := open_int Tryd.underlying3 (hval 0 3 v0 rfl rfl) h0
  clear hA0 hval0
  have hb : -9223372036854775808 ≤ n ∧ n ≤ 9223372036854775807 := by
    have h := wn
    simp [Lit.wf, IntKind.min, IntKind.max, IntKind.signed, IntKind.bits] at h
    omega
  refine (law_any n W hb.1 hb.2 (of_laid hL)).mono fun e W' ⟨he, bel⟩ => ?_
  subst he
  exact ⟨_, rfl, _, _, _, [], _, [], hW', trodAll_mk1 (shut_bool Tryd.underlying4 _), trodAll_mk1 (shut_int Tryd.underlying3 wn), rfl, bel.frame _, fun h => by cases h⟩

theorem row_holds : Rows.FnResultStringReadsBackSaid :=
  OpenClaim.holds_of_wide 3 Tryd.f3 rfl rfl rfl rfl rfl rfl rfl ⟨rfl, rfl, rfl, rfl, rfl⟩ rfl rfl rfl rfl rfl (by kernel_rfl) Tryd.func3 (by kernel_rfl)
    (of_decide_eq_true (by kernel_rfl)) (by unfold Func.isWrapper; first | (rw [if_pos (by decide +kernel)]; kernel_rfl) | (rw [if_neg (by decide +kernel)]; exact ⟨rfl, rfl⟩))
    (fun os started H enc _ => lifted os started H enc)

theorem readsBack : Rows.FnResultStringReadsBackCardSaid :=
  Claim7.holds_tied_plain_at .later [] [.data, .data, .data] true (true, "190a0cc3d516bc678cd866a6f68b7ea3c0d2773a586d3feb6aef8a989c770bf1") false
    row_holds (fun _ h => by cases h) (by kernel_rfl) (fun _ h => by cases h) fnResultStringReadsBack_row_tie rfl ⟨rfl, rfl⟩ (by kernel_rfl) rfl
    (fun f fn hf hfn => by
      obtain rfl : f = 3 := Option.some.inj ((show Tryd.prog.funcNamed Rows.fnResultStringReadsBackRow.func = some 3 by kernel_rfl).symm.trans hf) |>.symm
      obtain rfl : fn = Tryd.f3 := (Option.some.inj (Tryd.func3.symm.trans hfn)).symm
      exact ⟨by kernel_rfl, fun j t ht => by
        rw [Tryd.params3] at ht
        have hm : t ∈ [3] := by simpa using Array.mem_of_getElem? ht
        have hall : ([3].all fun u => !Tryd.prog.wantsStandIn u) = true := by kernel_rfl
        exact (show Tryd.prog.wantsStandIn t = false by simpa using List.all_eq_true.1 hall t hm)⟩)
    (by kernel_rfl)

end Go.Proofs.Qxb6605948aDoor
