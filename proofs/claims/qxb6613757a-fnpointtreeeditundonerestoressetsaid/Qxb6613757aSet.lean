import Derived.Test.Qxb6613757aV
/-
  PLAIN LAWS ON ASCENDING LISTS (no Go in sight).
-/
namespace Go.Proofs.Qxb6613757a.T
set_option linter.unusedVariables false
set_option linter.unusedSimpArgs false

theorem asc_nil : Asc [] := fun i j _ h => by simp at h
theorem asc_append {xs ys : List Int} (h1 : Asc xs) (h2 : Asc ys) (h : ∀ x, x ∈ xs → ∀ y, y ∈ ys → x < y) : Asc (xs ++ ys) := fun i j hij hj => by
  rw [List.length_append] at hj
  by_cases e1 : j < xs.length
  · rw [el_append_left _ _ _ (by omega), el_append_left _ _ _ e1]; exact h1 i j hij e1
  · by_cases e2 : i < xs.length
    · rw [el_append_left _ _ _ e2, el_append_right _ _ _ (by omega)]
      exact h _ (mem_iff.2 ⟨i, e2, rfl⟩) _ (mem_iff.2 ⟨j - xs.length, by omega, rfl⟩)
    · rw [el_append_right _ _ _ (by omega), el_append_right _ _ _ (by omega)]
      exact h2 _ _ (by omega) (by omega)
theorem asc_single (x : Int) : Asc [x] := fun i j hij hj => by simp at hj; omega
theorem asc_snoc {xs : List Int} {y : Int} (h1 : Asc xs) (h : ∀ x, x ∈ xs → x < y) : Asc (xs ++ [y]) :=
  asc_append h1 (asc_single y) (fun x hx z hz => by rw [List.mem_singleton] at hz; subst hz; exact h x hx)
theorem asc_left {xs ys : List Int} (h : Asc (xs ++ ys)) : Asc xs := fun i j hij hj => by
  have := h i j hij (by rw [List.length_append]; omega)
  rw [el_append_left _ _ _ (by omega), el_append_left _ _ _ hj] at this
  exact this
theorem asc_right {xs ys : List Int} (h : Asc (xs ++ ys)) : Asc ys := fun i j hij hj => by
  have := h (xs.length + i) (xs.length + j) (by omega) (by rw [List.length_append]; omega)
  rw [el_append_right _ _ _ (by omega), el_append_right _ _ _ (by omega)] at this
  simpa using this
theorem asc_mid {xs ys : List Int} (h : Asc (xs ++ ys)) {x y : Int} (hx : x ∈ xs) (hy : y ∈ ys) : x < y := by
  obtain ⟨i, hi, rfl⟩ := mem_iff.1 hx
  obtain ⟨j, hj, rfl⟩ := mem_iff.1 hy
  have := h i (xs.length + j) (by omega) (by rw [List.length_append]; omega)
  rw [el_append_left _ _ _ hi, el_append_right _ _ _ (by omega)] at this
  simpa using this
theorem asc_cons {x : Int} {xs : List Int} (h : Asc (x :: xs)) : Asc xs ∧ ∀ y, y ∈ xs → x < y :=
  ⟨asc_right (xs := [x]) h, fun y hy => asc_mid (xs := [x]) h (by simp) hy⟩

/-- AN ASCENDING LIST IS KNOWN BY ITS MEMBERS -/
theorem asc_unique : ∀ {xs ys : List Int}, Asc xs → Asc ys → (∀ x, x ∈ xs ↔ x ∈ ys) → xs = ys
  | [], [], _, _, _ => rfl
  | [], y :: ys, _, _, h => by have := (h y).2 (by simp); simp at this
  | x :: xs, [], _, _, h => by have := (h x).1 (by simp); simp at this
  | x :: xs, y :: ys, h1, h2, h => by
    obtain ⟨a1, b1⟩ := asc_cons h1
    obtain ⟨a2, b2⟩ := asc_cons h2
    have e : x = y := by
      have p1 := (h x).1 (by simp)
      have p2 := (h y).2 (by simp)
      rw [List.mem_cons] at p1 p2
      rcases p1 with p | p
      · exact p
      · rcases p2 with q | q
        · exact q.symm
        · have := b1 y q; have := b2 x p; omega
    subst e
    rw [asc_unique a1 a2 fun z => ?_]
    have hz := h z
    rw [List.mem_cons, List.mem_cons] at hz
    constructor
    · intro p
      rcases hz.1 (.inr p) with q | q
      · have := b1 z p; omega
      · exact q
    · intro p
      rcases hz.2 (.inr p) with q | q
      · have := b2 z p; omega
      · exact q

theorem mem_take_el {zs : List Int} {k : Nat} {x : Int} : x ∈ zs.take k ↔ ∃ j, j < k ∧ j < zs.length ∧ el zs j = x := by
  rw [mem_iff]
  constructor
  · rintro ⟨j, hj, e⟩
    rw [List.length_take] at hj
    exact ⟨j, by omega, by omega, by rw [← el_take zs k j (by omega)]; exact e⟩
  · rintro ⟨j, h1, h2, e⟩
    exact ⟨j, by rw [List.length_take]; omega, by rw [el_take _ _ _ h1]; exact e⟩
theorem take_snoc_el {zs : List Int} {k : Nat} (h : k < zs.length) : zs.take (k + 1) = zs.take k ++ [el zs k] := by
  rw [List.take_succ_eq_append_getElem h, el_eq zs k h]

/-- two ascending lists half merged -/
def MG (K A O : List Int) (i k : Nat) : Prop :=
  i ≤ K.length ∧ k ≤ A.length ∧ O.length = i + k ∧ Asc O ∧ (∀ x, x ∈ O → (∀ t, i ≤ t → t < K.length → x < el K t) ∧ (∀ t, k ≤ t → t < A.length → x < el A t)) ∧ (∀ x, x ∈ O ↔ x ∈ K.take i ∨ x ∈ A.take k)
theorem MG.start (K A : List Int) : MG K A [] 0 0 := ⟨Nat.zero_le _, Nat.zero_le _, rfl, asc_nil, fun x h => by simp at h, fun x => by simp⟩
theorem MG.swap {K A O : List Int} {i k : Nat} (h : MG K A O i k) : MG A K O k i :=
  ⟨h.2.1, h.1, by rw [h.2.2.1]; omega, h.2.2.2.1, fun x hx => ⟨(h.2.2.2.2.1 x hx).2, (h.2.2.2.2.1 x hx).1⟩, fun x => by rw [h.2.2.2.2.2 x]; exact Or.comm⟩
theorem MG.left {K A O : List Int} {i k : Nat} (h : MG K A O i k) (hK : Asc K) (hA : Asc A) (hi : i < K.length) (hlt : k = A.length ∨ el K i < el A k) : MG K A (O ++ [el K i]) (i + 1) k := by
  obtain ⟨h1, h2, h3, h4, h5, h6⟩ := h
  refine ⟨hi, h2, by rw [List.length_append, h3, List.length_singleton]; omega, asc_snoc h4 fun x hx => (h5 x hx).1 i (Nat.le_refl _) hi, fun x hx => ?_, fun x => ?_⟩
  · rw [List.mem_append, List.mem_singleton] at hx
    rcases hx with hx | rfl
    · exact ⟨fun t a b => (h5 x hx).1 t (by omega) b, (h5 x hx).2⟩
    · refine ⟨fun t a b => hK i t (by omega) b, fun t a b => ?_⟩
      rcases hlt with e | e
      · omega
      · exact Int.lt_of_lt_of_le e (hA.le a b)
  · rw [List.mem_append, List.mem_singleton, h6, take_snoc_el hi, List.mem_append, List.mem_singleton]
    constructor
    · rintro ((a | a) | a)
      · exact .inl (.inl a)
      · exact .inr a
      · exact .inl (.inr a)
    · rintro ((a | a) | a)
      · exact .inl (.inl a)
      · exact .inr a
      · exact .inl (.inr a)

/-- what an edit comes to: entries less dels, and adds -/
def Ed (E D A R : List Int) : Prop := Asc R ∧ ∀ x, x ∈ R ↔ (x ∈ E ∧ x ∉ D) ∨ x ∈ A
theorem Ed.unique {E D A R R' : List Int} (h : Ed E D A R) (h' : Ed E D A R') : R = R' := asc_unique h.1 h'.1 fun x => by rw [h.2, h'.2]

end Go.Proofs.Qxb6613757a.T
