/-
  THE PLAIN MATHEMATICS: changes, their order, sorted lists of them. No Go here.
-/
import Derived.Lib.Bytealg
import GoSem.Op.String
namespace Go.Proofs.Qxb6605926a

/-- One change: what the four cells of a Chg, or of a member.Change, hold. -/
structure Ch where
  op : ByteArray
  id : ByteArray
  addr : ByteArray
  inc : Int

/-- None in particular. -/
def dC : Ch := ⟨ByteArray.empty, ByteArray.empty, ByteArray.empty, 0⟩

/-! ### Bytes -/

theorem less_lt : ∀ (x y : List UInt8), Op.bytesLess x y = decide (x < y)
  | [], [] => by simp [Op.bytesLess]
  | _ :: _, [] => by simp [Op.bytesLess]
  | [], _ :: _ => by simp [Op.bytesLess]
  | a :: x, b :: y => by
    rw [Op.bytesLess, less_lt x y, Bool.eq_iff_iff]
    simp [List.cons_lt_cons_iff]

theorem cmp_neg : ∀ (x y : List UInt8), Lib.compareBytes x y < 0 ↔ x < y
  | [], [] => by simp [Lib.compareBytes]
  | _ :: _, [] => by simp [Lib.compareBytes]
  | [], _ :: _ => by simp [Lib.compareBytes]
  | a :: x, b :: y => by
    rw [Lib.compareBytes, List.cons_lt_cons_iff]
    by_cases h1 : a < b
    · simp [h1]
    · by_cases h2 : b < a
      · have h3 : a ≠ b := fun e => by subst e; exact h1 h2
        simp [h1, h2, h3]
      · have h3 : a = b := UInt8.le_antisymm (UInt8.not_lt.1 h2) (UInt8.not_lt.1 h1)
        subst h3
        simp [h1, cmp_neg x y]

theorem cmp_zero : ∀ (x y : List UInt8), Lib.compareBytes x y = 0 ↔ x = y
  | [], [] => by simp [Lib.compareBytes]
  | _ :: _, [] => by simp [Lib.compareBytes]
  | [], _ :: _ => by simp [Lib.compareBytes]
  | a :: x, b :: y => by
    rw [Lib.compareBytes]
    by_cases h1 : a < b
    · have h3 : a ≠ b := fun e => by subst e; exact UInt8.lt_irrefl _ h1
      simp [h1, h3]
    · by_cases h2 : b < a
      · have h3 : a ≠ b := fun e => by subst e; exact h1 h2
        simp [h1, h2, h3]
      · have h3 : a = b := UInt8.le_antisymm (UInt8.not_lt.1 h2) (UInt8.not_lt.1 h1)
        subst h3
        simp [h1, cmp_zero x y]

/-! ### The order of changes -/

/-- By id, then op, then address, then incarnation. -/
def ltC (c d : Ch) : Prop :=
  c.id.toList < d.id.toList ∨ (c.id.toList = d.id.toList ∧ (c.op.toList < d.op.toList ∨ (c.op.toList = d.op.toList ∧
    (c.addr.toList < d.addr.toList ∨ (c.addr.toList = d.addr.toList ∧ c.inc < d.inc)))))

theorem ltC_irrefl (c : Ch) : ¬ ltC c c := by
  unfold ltC
  simp [List.lt_irrefl]

theorem ltC_trans {a b c : Ch} (h : ltC a b) (k : ltC b c) : ltC a c := by
  unfold ltC at *
  rcases h with h | ⟨e, h⟩
  · rcases k with k | ⟨e', _⟩
    · exact Or.inl (List.lt_trans h k)
    · exact Or.inl (e' ▸ h)
  · rcases k with k | ⟨e', k⟩
    · exact Or.inl (e ▸ k)
    · refine Or.inr ⟨e.trans e', ?_⟩
      rcases h with h | ⟨e, h⟩
      · rcases k with k | ⟨e', _⟩
        · exact Or.inl (List.lt_trans h k)
        · exact Or.inl (e' ▸ h)
      · rcases k with k | ⟨e', k⟩
        · exact Or.inl (e ▸ k)
        · refine Or.inr ⟨e.trans e', ?_⟩
          rcases h with h | ⟨e, h⟩
          · rcases k with k | ⟨e', _⟩
            · exact Or.inl (List.lt_trans h k)
            · exact Or.inl (e' ▸ h)
          · rcases k with k | ⟨e', k⟩
            · exact Or.inl (e ▸ k)
            · exact Or.inr ⟨e.trans e', Int.lt_trans h k⟩

theorem lt_way1 {a b c a' b' c' : ByteArray} {n n' : Int} (h : (!b.toList == b'.toList) = true) : Op.bytesLess b.toList b'.toList = true ↔ ltC ⟨a, b, c, n⟩ ⟨a', b', c', n'⟩ := by
  rw [less_lt]
  have : b.toList ≠ b'.toList := by simpa using h
  simp [ltC, this]
theorem lt_way2 {a b c a' b' c' : ByteArray} {n n' : Int} (h : (!b.toList == b'.toList) = false) (h2 : (!a.toList == a'.toList) = true) : Op.bytesLess a.toList a'.toList = true ↔ ltC ⟨a, b, c, n⟩ ⟨a', b', c', n'⟩ := by
  rw [less_lt]
  have e : b.toList = b'.toList := by simpa using h
  have e2 : a.toList ≠ a'.toList := by simpa using h2
  simp [ltC, e, e2, List.lt_irrefl]
theorem lt_way3 {a b c a' b' c' : ByteArray} {n n' : Int} (h : (!b.toList == b'.toList) = false) (h2 : (!a.toList == a'.toList) = false) (h3 : (!c.toList == c'.toList) = true) : Op.bytesLess c.toList c'.toList = true ↔ ltC ⟨a, b, c, n⟩ ⟨a', b', c', n'⟩ := by
  rw [less_lt]
  have e : b.toList = b'.toList := by simpa using h
  have e2 : a.toList = a'.toList := by simpa using h2
  have e3 : c.toList ≠ c'.toList := by simpa using h3
  simp [ltC, e, e2, e3, List.lt_irrefl]
theorem lt_way4 {a b c a' b' c' : ByteArray} {n n' : Int} (h : (!b.toList == b'.toList) = false) (h2 : (!a.toList == a'.toList) = false) (h3 : (!c.toList == c'.toList) = false) : decide (n < n') = true ↔ ltC ⟨a, b, c, n⟩ ⟨a', b', c', n'⟩ := by
  have e : b.toList = b'.toList := by simpa using h
  have e2 : a.toList = a'.toList := by simpa using h2
  have e3 : c.toList = c'.toList := by simpa using h3
  simp [ltC, e, e2, e3, List.lt_irrefl]

/-- The sign of a comparison field by field. -/
theorem cmp_way1 {a b c a' b' c' : ByteArray} {n n' : Int} (h : ¬ Lib.compareBytes b.data.toList b'.data.toList = 0) : 0 ≤ Lib.compareBytes b.data.toList b'.data.toList ↔ ¬ ltC ⟨a, b, c, n⟩ ⟨a', b', c', n'⟩ := by
  rw [cmp_zero] at h
  have := cmp_neg b.data.toList b'.data.toList
  simp only [ltC, ByteArray.toList_eq, h, false_and, or_false, ← this]
  omega
theorem cmp_way2 {a b c a' b' c' : ByteArray} {n n' : Int} (h : Lib.compareBytes b.data.toList b'.data.toList = 0) (h2 : ¬ Lib.compareBytes a.data.toList a'.data.toList = 0) : 0 ≤ Lib.compareBytes a.data.toList a'.data.toList ↔ ¬ ltC ⟨a, b, c, n⟩ ⟨a', b', c', n'⟩ := by
  rw [cmp_zero] at h h2
  have := cmp_neg a.data.toList a'.data.toList
  simp only [ltC, ByteArray.toList_eq, h, h2, List.lt_irrefl, false_or, true_and, false_and, or_false, ← this]
  omega
theorem cmp_way3 {a b c a' b' c' : ByteArray} {n n' : Int} (h : Lib.compareBytes b.data.toList b'.data.toList = 0) (h2 : Lib.compareBytes a.data.toList a'.data.toList = 0) (h3 : ¬ Lib.compareBytes c.data.toList c'.data.toList = 0) : 0 ≤ Lib.compareBytes c.data.toList c'.data.toList ↔ ¬ ltC ⟨a, b, c, n⟩ ⟨a', b', c', n'⟩ := by
  rw [cmp_zero] at h h2 h3
  have := cmp_neg c.data.toList c'.data.toList
  simp only [ltC, ByteArray.toList_eq, h, h2, h3, List.lt_irrefl, false_or, true_and, false_and, or_false, ← this]
  omega
theorem cmp_way4 {a b c a' b' c' : ByteArray} {n n' : Int} (h : Lib.compareBytes b.data.toList b'.data.toList = 0) (h2 : Lib.compareBytes a.data.toList a'.data.toList = 0) (h3 : Lib.compareBytes c.data.toList c'.data.toList = 0) : n' ≤ n ↔ ¬ ltC ⟨a, b, c, n⟩ ⟨a', b', c', n'⟩ := by
  rw [cmp_zero] at h h2 h3
  simp only [ltC, ByteArray.toList_eq, h, h2, h3, List.lt_irrefl, false_or, true_and]
  omega

/-- Each is less than the next. -/
def SortedC (L : List Ch) : Prop := ∀ i, i + 1 < L.length → ltC (L.getD i dC) (L.getD (i + 1) dC)

theorem sorted_lt {L : List Ch} (h : SortedC L) : ∀ (d i : Nat), i + d + 1 < L.length → ltC (L.getD i dC) (L.getD (i + d + 1) dC)
  | 0, i, hi => h i hi
  | d + 1, i, hi => ltC_trans (sorted_lt h d i (by omega)) (h (i + d + 1) hi)

theorem sorted_lt' {L : List Ch} (h : SortedC L) {i j : Nat} (hij : i < j) (hj : j < L.length) : ltC (L.getD i dC) (L.getD j dC) := by
  have := sorted_lt h (j - i - 1) i (by omega)
  rwa [show i + (j - i - 1) + 1 = j by omega] at this

/-- What a binary search asks: once not less, never less again. -/
theorem sorted_mono {L : List Ch} (h : SortedC L) (x : Ch) {i j : Nat} (hij : i ≤ j) (hj : j < L.length) (hi : ¬ ltC (L.getD i dC) x) : ¬ ltC (L.getD j dC) x := by
  rcases Nat.lt_or_eq_of_le hij with hlt | rfl
  · exact fun k => hi (ltC_trans (sorted_lt' h hlt hj) k)
  · exact hi

/-! ### Removals -/

/-- "-" -/
def minus : List UInt8 := [45]

/-- Does T hold a removal of that id? -/
def hasRem (T : List Ch) (id : List UInt8) : Prop := ∃ k, k < T.length ∧ (T.getD k dC).op.toList = minus ∧ (T.getD k dC).id.toList = id

/-- A removal has no address and no incarnation. -/
def PlainRem (T : List Ch) : Prop := ∀ k, k < T.length → (T.getD k dC).op.toList = minus → (T.getD k dC).addr.toList = [] ∧ (T.getD k dC).inc = 0

/-- The search's place. -/
theorem found_iff {T : List Ch} (hs : SortedC T) (hp : PlainRem T) (id : ByteArray) (i : Nat)
    (hlo : ∀ t, t < i → ltC (T.getD t dC) ⟨⟨#[45]⟩, id, ⟨#[]⟩, 0⟩) (hhi : ∀ t, i ≤ t → t < T.length → ¬ ltC (T.getD t dC) ⟨⟨#[45]⟩, id, ⟨#[]⟩, 0⟩) :
    (i < T.length ∧ (T.getD i dC).op.toList = minus ∧ (T.getD i dC).id.toList = id.toList ∧ (T.getD i dC).addr.toList = [] ∧ (T.getD i dC).inc = 0) ↔ hasRem T id.toList := by
  constructor
  · rintro ⟨h1, h2, h3, _, _⟩
    exact ⟨i, h1, h2, h3⟩
  · rintro ⟨k, hk, ho, hi⟩
    obtain ⟨ha, hn⟩ := hp k hk ho
    have eq : ∀ c : Ch, ltC c (T.getD k dC) ↔ ltC c ⟨⟨#[45]⟩, id, ⟨#[]⟩, 0⟩ := by
      intro c
      have e1 : (⟨#[45]⟩ : ByteArray).toList = minus := ByteArray.toList_eq _
      have e2 : (⟨#[]⟩ : ByteArray).toList = [] := ByteArray.toList_eq _
      unfold ltC
      simp only [ho, hi, ha, hn, e1, e2]
    have e : k = i := by
      rcases Nat.lt_trichotomy k i with h | h | h
      · exact absurd ((eq _).2 (hlo k h)) (ltC_irrefl _)
      · exact h
      · exact absurd ((eq _).1 (sorted_lt' hs h hk)) (hhi i (Nat.le_refl _) (by omega))
    subst e
    exact ⟨hk, ho, hi, ha, hn⟩

end Go.Proofs.Qxb6605926a
