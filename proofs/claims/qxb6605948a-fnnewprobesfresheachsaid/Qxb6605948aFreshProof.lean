/-
  THE ROW OF FnNewProbesFreshEach.
-/
import Derived.Test.Qxb6605948aWalks
import Derived.ProofKit
import Derived.LaidEqlPtr
import Derived.OpenShut
namespace Go.Proofs.Qxb6605948a
open Go.ChangeShapes Go.WideShapes Go.ChangeAt Go.RowKit

theorem info36 : (Try.prog.info? 36).map (fun i => i.size) = some 1 := by kernel_rfl

theorem eql_other (s : Nat) (A B : Obj) (c d : Array Value) (hA : A = .cells c 36 (0, 0)) (hB : B = .cells d 36 (0, 0)) (w : World) (hs : s = w.heap.size) :
    (binOp .eql 22 (.pointer (some ⟨s, 0, none⟩)) (.pointer (some ⟨s + 1, 0, none⟩))).run Try.prog ((w.alloc A).alloc B) = .ok (.bool false) ((w.alloc A).alloc B) := by
  subst hA hB hs
  obtain ⟨j, hj, hz⟩ := Option.map_eq_some_iff.1 info36
  exact run_eql_ptr_other _ Try.underlying22 hj (by rw [hz]; decide) (by simp) (heap_alloc2_old _ _ _) (heap_alloc2_new _ _ _)

theorem fresh_walk (w : World) : Calls Try.prog 4 #[] w fun e w' => e = .returned (.bool true) ∧ Grown w w' := by
  have heq := eql_other w.heap.size (.cells #[.int .u32 0] 36) (.cells #[.int .u32 0] 36) _ _ rfl rfl w rfl
  have h1 := stop_any w.heap.size (.int .u32 0) ((w.alloc (.cells #[.int .u32 0] 36)).alloc (.cells #[.int .u32 0] 36)) (by go_simp) (by go_simp)
  go_enter Try.func4, Try.ntmps4
  go_wp2_with fail
  refine (new_any _).mono ?_
  rintro e w' ⟨rfl, rfl⟩
  go_wp2_with fail
  refine (new_any _).mono ?_
  rintro e w' ⟨rfl, rfl⟩
  go_wp2_with fail
  refine h1.mono ?_
  rintro e w' ⟨rfl, rfl⟩
  go_wp2_with fail
  refine (stopping_any w.heap.size 1 true rfl _ ?_).mono ?_
  · go_simp
  rintro e w' ⟨rfl, rfl⟩
  go_wp2_with fail
  refine (stopping_any (w.heap.size + 1) 0 false rfl _ ?_).mono ?_
  · go_simp
  rintro e w' ⟨rfl, rfl⟩
  go_wp2_with fail
  go_ret
  exact ⟨rfl, (((Grown.refl _).alloc _ _).alloc _ _).drew⟩

theorem own : ownKnob Try.prog.godebug = none := by kernel_rfl

set_option maxRecDepth 100000 in
theorem lifted (os : Os) (started : os.Started) (H : Type) (enc : TypeId × Value → H) :
    ReturnsInHanded {} Try.checked os 4 .any (Rows.fnNewProbesFreshEachSpec.pre6 enc Try.prog Try.f4 Rows.fnNewProbesFreshEachRow.domain false) (Rows.fnNewProbesFreshEachSpec.post enc Try.prog Try.f4 false true false false) := by
  refine returnsInHanded_of_change (C := Try.checked) own started (by kernel_rfl) Try.func4
    (ChangeSpec.witness6 (enc := enc) (C := Try.checked) false ⟨#[], #[], []⟩ 8 (by kernel_rfl) (by kernel_rfl) (by kernel_rfl) (by kernel_rfl)) ?_
  intro W base args ds gs before _ hW hcnd _
  have hW' := hW
  obtain ⟨p, q, hA0, hV, rfl, hfz, hnd⟩ := hW
  have hA : DataW.TrodAll enc Try.prog W 0 (fun _ => true) true Try.f4.params.toList args.toList ds p := hA0
  rw [Try.params4] at hA
  obtain ⟨rfl, rfl, rfl⟩ := trodAll_none hA
  obtain ⟨rfl, rfl⟩ := trodVars_none hV
  clear hA0
  simp only [List.append_nil] at hW'
  refine (fresh_walk W).mono fun e W' ⟨he, hg⟩ => ?_
  subst he
  exact ⟨_, rfl, post_of_same (pa := []) (pv := []) hW' (fun _ _ _ => (trodAll_cons_mk (shut_bool Try.underlying4 _) trodAll_mk0)) (fun sp _ => rfl) (fun _ _ => rfl) rfl
    (hg.frame _) hg.2.1 (ok_one (by kernel_rfl) rfl (okWide_bool_mk Try.underlying4 _))⟩

theorem newProbesFreshEach : Rows.FnNewProbesFreshEachSaid :=
  OpenClaim.holds_of_wide 4 Try.f4 rfl rfl rfl rfl rfl rfl rfl ⟨rfl, rfl, rfl, rfl, rfl⟩ rfl rfl rfl rfl rfl (by kernel_rfl) Try.func4 (by kernel_rfl)
    (of_decide_eq_true (by kernel_rfl)) (by unfold Func.isWrapper; first | (rw [if_pos (by decide +kernel)]; kernel_rfl) | (rw [if_neg (by decide +kernel)]; exact ⟨rfl, rfl⟩))
    (fun os started H enc _ => lifted os started H enc)

end Go.Proofs.Qxb6605948a
