/-
  THE ROW OF FnTombstoneDigestNamesTheRemovals.
-/
import Derived.Test.Qxb6605926aLaw0
import Derived.Test.Qxb6605926aLawL
import Derived.ProofKit
import Derived.OpenShut
import Derived.ChangeOld
import Derived.Deep.Slices
import Derived.Lib.SmallJoins
namespace Go.Proofs.Qxb6605926a
open Go.ChangeShapes Go.WideShapes Go.ChangeAt Go.RowKit Go.Deep Go.Joins

theorem own : ownKnob Try.prog.godebug = none := by kernel_rfl
theorem laidOut : laidOutB Try.prog = true := by kernel_rfl
theorem cells42 : Try.prog.cellsOf 42 = 4 := by kernel_rfl
theorem cells23 : Try.prog.cellsOf 23 = 16 := by kernel_rfl
theorem cells9 : Try.prog.cellsOf 9 = 1 := by kernel_rfl
theorem cells40 : Try.prog.cellsOf 40 = 1 := by kernel_rfl

/-- One change out of its four cells. -/
theorem open_chg {H : Type} {enc : TypeId × Value → H} {w : World} {base : Nat} {spare : Nat → Bool} {held : Bool} {n : Nat} {cs : List Value} {y : DataW H × List MemPlace} (h : DataW.trod enc Try.prog w base spare held n 42 cs = some y) :
    ∃ c : Ch, cs = [.string c.op, .string c.id, .string c.addr, .int .u64 c.inc] := by
  obtain ⟨y0, y1, y2, y3, m, _, hl, h0, h1, h2, h3⟩ := trod_struct4 Try.underlying42 h
  rw [cells42] at hl
  match cs, hl with
  | [c0, c1, c2, c3], _ =>
    simp only [cells9, cells40] at h0 h1 h2 h3
    obtain ⟨s0, e0, _, _⟩ := DataW.trod_string Try.underlying9 h0
    obtain ⟨s1, e1, _, _⟩ := DataW.trod_string Try.underlying9 h1
    obtain ⟨s2, e2, _, _⟩ := DataW.trod_string Try.underlying9 h2
    obtain ⟨s3, e3, _, _⟩ := DataW.trod_int Try.underlying40 h3
    simp at e0 e1 e2 e3
    exact ⟨⟨s0, s1, s2, s3⟩, by rw [e0, e1, e2, e3]⟩

/-- A slice of changes. -/
theorem open_chgs {H : Type} {enc : TypeId × Value → H} {W : World} {spare : Nat → Bool} {held : Bool} {a : Option Addr} {len cap : Nat} {d : DataW H} {p : List MemPlace}
    (h : DataW.Trod enc Try.prog W 0 spare held 22 (.slice a len cap) d p) : ∃ L : List Ch, L.length = len ∧ len ≤ 9223372036854775807 ∧ (a = none → cap = 0) ∧ SlA W a L := by
  obtain ⟨fuel, hf⟩ := h
  rcases open_slice Try.underlying22 hf with ⟨hcs, _⟩ | ⟨a', len', cap', m, n, D, Pl, hcs, _, hl, hm, hmm, _, hx⟩
  · simp [Value.cells] at hcs
    obtain ⟨rfl, rfl, rfl⟩ := hcs
    exact ⟨[], rfl, by omega, fun _ => rfl, fun h => absurd h (by simp)⟩
  · simp [Value.cells] at hcs
    obtain ⟨rfl, rfl, rfl⟩ := hcs
    have hlm : len ≤ m := by rw [hmm]; split <;> omega
    unfold maxLen at hm
    rw [cells42] at hx
    have one : ∀ i, i < len → ∃ c : Ch, ∀ j, j < 4 → W.cell? ((a'.add (i * 4)).add j) = [Value.string c.op, .string c.id, .string c.addr, .int .u64 c.inc][j]? := fun i hi => by
      obtain ⟨cs', h1, h2⟩ := hx i (by omega)
      obtain ⟨c, hc⟩ := open_chg h2
      obtain ⟨_, _, h3⟩ := World.cells?_some h1
      exact ⟨c, fun j hj => by rw [h3 j hj, hc]⟩
    have two : ∀ k, k ≤ len → ∃ L : List Ch, L.length = k ∧ ∀ i, i < k → ∀ j, j < 4 → W.cell? ((a'.add (i * 4)).add j) = [Value.string (L.getD i dC).op, .string (L.getD i dC).id, .string (L.getD i dC).addr, .int .u64 (L.getD i dC).inc][j]? := by
      intro k
      induction k with
      | zero => exact fun _ => ⟨[], rfl, fun i hi => by omega⟩
      | succ k ih =>
        intro hk
        obtain ⟨L, hL, hc⟩ := ih (by omega)
        obtain ⟨c, hc'⟩ := one k (by omega)
        refine ⟨L ++ [c], by simp [hL], fun i hi => ?_⟩
        by_cases e : i = k
        · subst e
          have eg : (L ++ [c]).getD i dC = c := by simp [List.getD, ← hL]
          rw [eg]
          exact hc'
        · have eg : (L ++ [c]).getD i dC = L.getD i dC := by simp [List.getD, List.getElem?_append_left (show i < L.length by omega)]
          rw [eg]
          exact hc i (by omega)
    obtain ⟨L, hL, hc⟩ := two len (Nat.le_refl _)
    refine ⟨L, hL, by omega, fun h => (by cases h), fun hpos => ?_⟩
    rw [hL] at hpos
    obtain ⟨b, off, spot⟩ := a'
    have hspot : spot = none := by
      have h0 := hc 0 hpos 0 (by omega)
      simpa [Addr.add] using World.cell?_spot h0
    subst hspot
    refine ⟨b, off, rfl, fun i hi => ?_⟩
    rw [hL] at hi
    have ha : ∀ j, ((⟨b, off, none⟩ : Addr).add (i * 4)).add j = ⟨b, off + i * 4 + j, none⟩ := fun j => by
      rw [add_plain, add_plain]
    have q := hc i hi
    exact ⟨by simpa [ha] using q 0 (by omega), by simpa [ha] using q 1 (by omega), by simpa [ha] using q 2 (by omega), by simpa [ha] using q 3 (by omega)⟩

theorem list16 {α : Type} (l : List α) (h : (⟨l⟩ : Array α).size = 16) : ∃ c0 c1 c2 c3 c4 c5 c6 c7 c8 c9 c10 c11 c12 c13 c14 c15, l = [c0, c1, c2, c3, c4, c5, c6, c7, c8, c9, c10, c11, c12, c13, c14, c15] := by
  match l, h with
  | [c0, c1, c2, c3, c4, c5, c6, c7, c8, c9, c10, c11, c12, c13, c14, c15], _ => exact ⟨c0, c1, c2, c3, c4, c5, c6, c7, c8, c9, c10, c11, c12, c13, c14, c15, rfl⟩

/-- The digest argument. -/
theorem open_dig {H : Type} {enc : TypeId × Value → H} {W : World} {base : Nat} {spare : Nat → Bool} {held : Bool} {v : Value} {d : DataW H} {p : List MemPlace} (hv : Value.okWide Try.prog W .any base 23 v)
    (h : DataW.Trod enc Try.prog W 0 spare held 23 v d p) : ∃ x0 x1 x2 x3 x4 x5 x6 x7 x8 x9 x10 x11 x12 x13 x14 x15 : Int, v = .agg #[.int .u8 x0, .int .u8 x1, .int .u8 x2, .int .u8 x3, .int .u8 x4, .int .u8 x5, .int .u8 x6, .int .u8 x7, .int .u8 x8, .int .u8 x9, .int .u8 x10, .int .u8 x11, .int .u8 x12, .int .u8 x13, .int .u8 x14, .int .u8 x15] := by
  obtain ⟨cs, rfl, hsz, _⟩ : ∃ cs, v = .agg cs ∧ cs.size = Try.prog.cellsOf 23 ∧ Row.okWide Try.prog W .any base 23 cs := by
    simpa [Value.okWide, Try.underlying23] using hv
  rw [cells23] at hsz
  obtain ⟨l⟩ := cs
  obtain ⟨c0, c1, c2, c3, c4, c5, c6, c7, c8, c9, c10, c11, c12, c13, c14, c15, rfl⟩ := list16 l hsz
  obtain ⟨fuel, hf⟩ := h
  obtain ⟨ys, m, _, _, _, hlen, hy⟩ := DataW.trod_array Try.underlying23 hf
  have one : ∀ i (c : Value), i < 16 → [c0, c1, c2, c3, c4, c5, c6, c7, c8, c9, c10, c11, c12, c13, c14, c15].drop i = c :: [c0, c1, c2, c3, c4, c5, c6, c7, c8, c9, c10, c11, c12, c13, c14, c15].drop (i + 1) → ∃ n : Int, c = .int .u8 n := fun i c hi hc => by
    have h := hy i hi
    rw [cells5, Nat.mul_one] at h
    have e : ((Value.agg #[c0, c1, c2, c3, c4, c5, c6, c7, c8, c9, c10, c11, c12, c13, c14, c15]).cells.toList.drop i).take 1 = [c] := by
      show ([c0, c1, c2, c3, c4, c5, c6, c7, c8, c9, c10, c11, c12, c13, c14, c15].drop i).take 1 = [c]
      rw [hc]; rfl
    rw [e, List.getElem?_eq_getElem (by omega)] at h
    obtain ⟨n, hn, _⟩ := DataW.trod_int Try.underlying5 h
    exact ⟨n, by simpa using hn⟩
  obtain ⟨x0, rfl⟩ := one 0 c0 (by omega) rfl
  obtain ⟨x1, rfl⟩ := one 1 c1 (by omega) rfl
  obtain ⟨x2, rfl⟩ := one 2 c2 (by omega) rfl
  obtain ⟨x3, rfl⟩ := one 3 c3 (by omega) rfl
  obtain ⟨x4, rfl⟩ := one 4 c4 (by omega) rfl
  obtain ⟨x5, rfl⟩ := one 5 c5 (by omega) rfl
  obtain ⟨x6, rfl⟩ := one 6 c6 (by omega) rfl
  obtain ⟨x7, rfl⟩ := one 7 c7 (by omega) rfl
  obtain ⟨x8, rfl⟩ := one 8 c8 (by omega) rfl
  obtain ⟨x9, rfl⟩ := one 9 c9 (by omega) rfl
  obtain ⟨x10, rfl⟩ := one 10 c10 (by omega) rfl
  obtain ⟨x11, rfl⟩ := one 11 c11 (by omega) rfl
  obtain ⟨x12, rfl⟩ := one 12 c12 (by omega) rfl
  obtain ⟨x13, rfl⟩ := one 13 c13 (by omega) rfl
  obtain ⟨x14, rfl⟩ := one 14 c14 (by omega) rfl
  obtain ⟨x15, rfl⟩ := one 15 c15 (by omega) rfl
  exact ⟨x0, x1, x2, x3, x4, x5, x6, x7, x8, x9, x10, x11, x12, x13, x14, x15, rfl⟩

/-- The law, whatever the arguments. -/
theorem law_any (la ta : Option Addr) (lc tc : Nat) (L T : List Ch) (x0 x1 x2 x3 x4 x5 x6 x7 x8 x9 x10 x11 x12 x13 x14 x15 : Int) (w : World) (hnL : L.length ≤ 9223372036854775807) (hnT : T.length ≤ 9223372036854775807) (hln : la = none → lc = 0) (hL : SlA w la L) (hT : SlA w ta T) :
    Calls Try.prog 5 #[.slice la L.length lc, .slice ta T.length tc, .agg #[.int .u8 x0, .int .u8 x1, .int .u8 x2, .int .u8 x3, .int .u8 x4, .int .u8 x5, .int .u8 x6, .int .u8 x7, .int .u8 x8, .int .u8 x9, .int .u8 x10, .int .u8 x11, .int .u8 x12, .int .u8 x13, .int .u8 x14, .int .u8 x15]] w fun e w' => e = .returned (.bool true) ∧ Below w.heap.size w w' := by
  by_cases hT0 : 0 < T.length
  · obtain ⟨b, off, rfl, hA⟩ := hT hT0
    exact law_T la b off lc tc L T x0 x1 x2 x3 x4 x5 x6 x7 x8 x9 x10 x11 x12 x13 x14 x15 w hnL hnT hln hT0 hL hA
  · have eT : T.length = 0 := by omega
    rw [eT]
    by_cases hL0 : 0 < L.length
    · obtain ⟨b, off, rfl, hA⟩ := hL hL0
      exact law_L0 b off ta lc tc L x0 x1 x2 x3 x4 x5 x6 x7 x8 x9 x10 x11 x12 x13 x14 x15 w hnL hL0 hA
    · have eL : L.length = 0 := by omega
      rw [eL]
      exact law_00 la ta lc tc x0 x1 x2 x3 x4 x5 x6 x7 x8 x9 x10 x11 x12 x13 x14 x15 w

set_option maxRecDepth 100000 in
theorem lifted (os : Os) (started : os.Started) (H : Type) (enc : TypeId × Value → H) :
    ReturnsInHanded {} Try.checked os 5 .any (Rows.fnTombstoneDigestNamesTheRemovalsSpec.pre6 enc Try.prog Try.f5 Rows.fnTombstoneDigestNamesTheRemovalsRow.domain false) (Rows.fnTombstoneDigestNamesTheRemovalsSpec.post enc Try.prog Try.f5 false true false false) := by
  refine returnsInHanded_of_change (C := Try.checked) own started (by kernel_rfl) Try.func5
    (ChangeSpec.witness6 (enc := enc) (C := Try.checked) false ⟨#[], #[.slice none 0 0, .slice none 0 0, .agg #[.int .u8 0, .int .u8 0, .int .u8 0, .int .u8 0, .int .u8 0, .int .u8 0, .int .u8 0, .int .u8 0, .int .u8 0, .int .u8 0, .int .u8 0, .int .u8 0, .int .u8 0, .int .u8 0, .int .u8 0, .int .u8 0]], []⟩ 8 (by kernel_rfl) (by kernel_rfl) (by kernel_rfl) (by kernel_rfl)) ?_
  intro W base args ds gs before hval0 hW hcnd _
  have hval : ∀ (j : Nat) t v, Try.f5.params[j]? = some t → args[j]? = some v → Value.okWide Try.prog W .any base t v := hval0
  have hW' := hW
  obtain ⟨p, q, hA0, hV, rfl, hfz, hnd⟩ := hW
  have hA : DataW.TrodAll enc Try.prog W 0 (fun _ => true) true Try.f5.params.toList args.toList ds p := hA0
  rw [Try.params5] at hA hval
  obtain ⟨v0, vs0, d0, ds0, p0, q0, hargs, rfl, rfl, h0, r0⟩ := trodAll_cons hA
  obtain ⟨v1, vs1, d1, ds1, p1, q1, rfl, rfl, rfl, h1, r1⟩ := trodAll_cons r0
  obtain ⟨v2, vs2, d2, ds2, p2, q2, rfl, rfl, rfl, h2, r2⟩ := trodAll_cons r1
  obtain ⟨rfl, rfl, rfl⟩ := trodAll_nil r2
  obtain rfl : args = #[v0, v1, v2] := by cases args; simp_all
  obtain ⟨rfl, rfl⟩ := trodVars_none hV
  obtain ⟨a0, len0, cap0, rfl⟩ := okWide_slice Try.underlying22 (hval 0 22 v0 rfl rfl)
  obtain ⟨a1, len1, cap1, rfl⟩ := okWide_slice Try.underlying22 (hval 1 22 v1 rfl rfl)
  have k0 := h0
  have k1 := h1
  have k2 := h2
  have lt0 : ∀ x ∈ p0, x.block < W.heap.size := by obtain ⟨m, hm⟩ := k0; exact DataW.trod_lt m _ _ _ hm
  have lt1 : ∀ x ∈ p1, x.block < W.heap.size := by obtain ⟨m, hm⟩ := k1; exact DataW.trod_lt m _ _ _ hm
  have lt2 : ∀ x ∈ p2, x.block < W.heap.size := by obtain ⟨m, hm⟩ := k2; exact DataW.trod_lt m _ _ _ hm
  obtain ⟨L, rfl, hnL, hln, hL⟩ := open_chgs h0
  obtain ⟨T, rfl, hnT, _, hT⟩ := open_chgs h1
  obtain ⟨x0, x1, x2, x3, x4, x5, x6, x7, x8, x9, x10, x11, x12, x13, x14, x15, rfl⟩ := open_dig (hval 2 23 v2 rfl rfl) h2
  clear hA0 hval0
  refine (law_any a0 a1 cap0 cap1 L T x0 x1 x2 x3 x4 x5 x6 x7 x8 x9 x10 x11 x12 x13 x14 x15 W hnL hnT hln hL hT).mono fun e W' ⟨he, bel⟩ => ?_
  subst he
  exact ⟨_, rfl, _, _, _, [], _, [], hW', trodAll_mk1 (shut_bool Try.underlying4 _), trodAll_cons_mk (Below.trod laidOut (by kernel_rfl) (of_decide_eq_true (by kernel_rfl)) k0 bel lt0) (trodAll_cons_mk (Below.trod laidOut (by kernel_rfl) (of_decide_eq_true (by kernel_rfl)) k1 bel lt1) (trodAll_cons_mk (Below.trod laidOut (by kernel_rfl) (of_decide_eq_true (by kernel_rfl)) k2 bel lt2) trodAll_mk0)), rfl, bel.frame _, fun h => by cases h⟩

theorem tombstone : Rows.FnTombstoneDigestNamesTheRemovalsSaid :=
  OpenClaim.holds_of_wide 5 Try.f5 rfl rfl rfl rfl rfl rfl rfl ⟨rfl, rfl, rfl, rfl, rfl⟩ rfl rfl rfl rfl rfl (by kernel_rfl) Try.func5 (by kernel_rfl)
    (of_decide_eq_true (by kernel_rfl)) (by unfold Func.isWrapper; first | (rw [if_pos (by decide +kernel)]; kernel_rfl) | (rw [if_neg (by decide +kernel)]; exact ⟨rfl, rfl⟩))
    (fun os started H enc _ => lifted os started H enc)

end Go.Proofs.Qxb6605926a
