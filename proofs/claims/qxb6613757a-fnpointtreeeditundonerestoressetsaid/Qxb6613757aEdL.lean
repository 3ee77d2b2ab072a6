import Derived.Test.Qxb6613757aRd
/-
  EDITS, CHILD BY CHILD: the plain law of treeNode.edited.
-/
namespace Go.Proofs.Qxb6613757a.T
open Go.RowKit
set_option linter.unusedVariables false
set_option linter.unusedSimpArgs false

theorem Ed.append {E1 D1 A1 R1 E2 D2 A2 R2 : List Int} (h1 : Ed E1 D1 A1 R1) (h2 : Ed E2 D2 A2 R2)
    (hs : ∀ x, x ∈ E1 ∨ x ∈ D1 ∨ x ∈ A1 → ∀ y, y ∈ E2 ∨ y ∈ D2 ∨ y ∈ A2 → x < y) : Ed (E1 ++ E2) (D1 ++ D2) (A1 ++ A2) (R1 ++ R2) := by
  refine ⟨asc_append h1.1 h2.1 fun x hx y hy => ?_, fun x => ?_⟩
  · rw [h1.2] at hx
    rw [h2.2] at hy
    refine hs x ?_ y ?_
    · rcases hx with ⟨h, _⟩ | h
      · exact .inl h
      · exact .inr (.inr h)
    · rcases hy with ⟨h, _⟩ | h
      · exact .inl h
      · exact .inr (.inr h)
  · simp only [List.mem_append, h1.2, h2.2]
    constructor
    · rintro ((⟨a, b⟩ | a) | (⟨a, b⟩ | a))
      · exact .inl ⟨.inl a, fun h => h.elim b (fun h => absurd (hs x (.inl a) x (.inr (.inl h))) (by omega))⟩
      · exact .inr (.inl a)
      · exact .inl ⟨.inr a, fun h => h.elim (fun h => absurd (hs x (.inr (.inl h)) x (.inl a)) (by omega)) b⟩
      · exact .inr (.inr a)
    · rintro (⟨a | a, b⟩ | a | a)
      · exact .inl (.inl ⟨a, fun h => b (.inl h)⟩)
      · exact .inr (.inl ⟨a, fun h => b (.inr h)⟩)
      · exact .inl (.inr a)
      · exact .inr (.inr a)

theorem Ed.keep {E : List Int} (h : Asc E) : Ed E [] [] E := ⟨h, fun x => by simp⟩

theorem asc_len : ∀ {R S : List Int}, Asc R → (∀ x, x ∈ R → x ∈ S) → R.length ≤ S.length
  | [], S, _, _ => Nat.zero_le _
  | r :: R, S, hR, hs => by
    obtain ⟨h1, h2⟩ := asc_cons hR
    have hr := hs r (by simp)
    have := asc_len (R := R) (S := S.erase r) h1 fun x hx => by
      have : x ≠ r := fun e => by have := h2 x hx; omega
      exact (List.mem_erase_of_ne this).2 (hs x (by simp [hx]))
    rw [List.length_erase_of_mem hr] at this
    have := List.length_pos_of_mem hr
    simp
    omega
theorem Ed.len {E D A R : List Int} (h : Ed E D A R) : R.length ≤ E.length + A.length := by
  have := asc_len (S := E ++ A) h.1 fun x hx => by
    rcases (h.2 x).1 hx with ⟨h, _⟩ | h
    · simp [h]
    · simp [h]
  simpa using this

/-- an edit of a node's children: k of them done; D' and A' are still to come -/
def EI (Ls : List (List (List Int))) (ds xs : List Int) (k : Nat) (D' A' R : List Int) : Prop :=
  ∃ D1 A1, ds = D1 ++ D' ∧ xs = A1 ++ A' ∧ Ed (ents (Ls.take k)) D1 A1 R ∧ k ≤ Ls.length ∧ (k = Ls.length → D' = [] ∧ A' = []) ∧
    ∀ x, x ∈ ents (Ls.take k) ∨ x ∈ D1 ∨ x ∈ A1 → ∀ y, y ∈ ents (Ls.drop k) ∨ y ∈ D' ∨ y ∈ A' → x < y

theorem EI.start {Ls : List (List (List Int))} (ds xs : List Int) (h : 1 ≤ Ls.length) : EI Ls ds xs 0 ds xs [] :=
  ⟨[], [], rfl, rfl, ⟨asc_nil, fun x => by simp [ents]⟩, Nat.zero_le _, fun e => by omega, fun x hx => by simp [ents] at hx⟩

theorem EI.fin {Ls : List (List (List Int))} {ds xs R D' A' : List Int} {k : Nat} (h : EI Ls ds xs k D' A' R) (hk : k = Ls.length) : Ed (ents Ls) ds xs R := by
  obtain ⟨D1, A1, rfl, rfl, hE, _, he, _⟩ := h
  obtain ⟨rfl, rfl⟩ := he hk
  rw [List.take_of_length_le (by omega)] at hE
  simpa using hE

theorem ents_drop {Ls : List (List (List Int))} {k : Nat} (h : k < Ls.length) : ents (Ls.drop k) = (lv Ls k).flatten ++ ents (Ls.drop (k + 1)) := by
  unfold ents
  rw [List.drop_eq_getElem_cons h, List.flatten_cons, List.flatten_append]
  simp [lv, h]
theorem ents_cut (Ls : List (List (List Int))) (k : Nat) : ents Ls = ents (Ls.take k) ++ ents (Ls.drop k) := by
  unfold ents
  conv => lhs; rw [← List.take_append_drop k Ls]
  rw [List.flatten_append, List.flatten_append]

theorem EI.step {Ls : List (List (List Int))} {ds xs d a D' A' R R' : List Int} {k : Nat} (h : EI Ls ds xs k (d ++ D') (a ++ A') R) (hk : k < Ls.length) (hA : Asc (ents Ls)) (hE : Ed (lv Ls k).flatten d a R')
    (hs : ∀ x, x ∈ (lv Ls k).flatten ∨ x ∈ d ∨ x ∈ a → ∀ y, y ∈ D' ∨ y ∈ A' → x < y) (hs2 : ∀ x, x ∈ d ∨ x ∈ a → ∀ y, y ∈ ents (Ls.drop (k + 1)) → x < y) (hend : k + 1 = Ls.length → D' = [] ∧ A' = []) : EI Ls ds xs (k + 1) D' A' (R ++ R') := by
  obtain ⟨D1, A1, rfl, rfl, hE1, _, _, hsep⟩ := h
  have hd := ents_drop hk
  have hl : ∀ x, x ∈ (lv Ls k).flatten → ∀ y, y ∈ ents (Ls.drop (k + 1)) → x < y := fun x hx y hy => by
    have e := ents_cut Ls k
    rw [hd] at e
    rw [e] at hA
    exact asc_mid (asc_right hA) hx hy
  refine ⟨D1 ++ d, A1 ++ a, by simp, by simp, ?_, by omega, hend, ?_⟩
  · rw [ents_take_succ hk]
    refine hE1.append hE fun x hx y hy => hsep x hx y ?_
    rw [hd]
    simp only [List.mem_append]
    rcases hy with h | h | h
    · exact .inl (.inl h)
    · exact .inr (.inl (.inl h))
    · exact .inr (.inr (.inl h))
  · rw [ents_take_succ hk]
    simp only [List.mem_append]
    intro x hx y hy
    have old : (x ∈ ents (Ls.take k) ∨ x ∈ D1 ∨ x ∈ A1) → x < y := fun h => hsep x h y (by
      rw [hd]
      simp only [List.mem_append]
      rcases hy with h | h | h
      · exact .inl (.inr h)
      · exact .inr (.inl (.inr h))
      · exact .inr (.inr (.inr h)))
    have new : (x ∈ (lv Ls k).flatten ∨ x ∈ d ∨ x ∈ a) → x < y := fun h => by
      rcases hy with h' | h'
      · rcases h with h | h
        · exact hl x h y h'
        · exact hs2 x h y h'
      · exact hs x h y h'
    rcases hx with (h | h) | (h | h) | (h | h)
    · exact old (.inl h)
    · exact new (.inl h)
    · exact old (.inr (.inl h))
    · exact new (.inr (.inl h))
    · exact old (.inr (.inr h))
    · exact new (.inr (.inr h))

theorem asc_lv {Ls : List (List (List Int))} {k : Nat} (hk : k < Ls.length) (hA : Asc (ents Ls)) : Asc (lv Ls k).flatten := by
  have e := ents_cut Ls k
  rw [ents_drop hk] at e
  rw [e] at hA
  exact asc_left (asc_right hA)

/-- a child that neither falls in -/
theorem EI.keep {Ls : List (List (List Int))} {ds xs D' A' R : List Int} {k : Nat} (h : EI Ls ds xs k D' A' R) (hk : k < Ls.length) (hA : Asc (ents Ls)) (hs : ∀ x, x ∈ (lv Ls k).flatten → ∀ y, y ∈ D' ∨ y ∈ A' → x < y) (hend : k + 1 = Ls.length → D' = [] ∧ A' = []) :
    EI Ls ds xs (k + 1) D' A' (R ++ (lv Ls k).flatten) :=
  EI.step (d := []) (a := []) h hk hA (Ed.keep (asc_lv hk hA)) (fun x hx y hy => by
    rcases hx with hx | hx | hx
    · exact hs x hx y hy
    · simp at hx
    · simp at hx) (fun x hx => by simp at hx) hend

/-- the largest entry under child k -/
def lastOf (Ls : List (List (List Int))) (k : Nat) : Int := el (lv Ls k).flatten ((lv Ls k).flatten.length - 1)
theorem last_ge {zs : List Int} (h : Asc zs) {x : Int} (hx : x ∈ zs) : x ≤ el zs (zs.length - 1) := by
  obtain ⟨j, hj, rfl⟩ := mem_iff.1 hx
  exact h.le (by omega) (by omega)

theorem EI.sub {Ls : List (List (List Int))} {ds xs D' A' R : List Int} {k : Nat} (h : EI Ls ds xs k D' A' R) (hS : Sub ds (ents Ls)) : ∀ x, x ∈ D' → x ∈ ents (Ls.drop k) := by
  obtain ⟨D1, A1, rfl, rfl, hE1, _, _, hsep⟩ := h
  intro x hx
  have := hS x (by simp [hx])
  rw [ents_cut Ls k, List.mem_append] at this
  rcases this with h | h
  · have := hsep x (.inl h) x (.inr (.inl hx)); omega
  · exact h
theorem EI.asc {Ls : List (List (List Int))} {ds xs D' A' R : List Int} {k : Nat} (h : EI Ls ds xs k D' A' R) (h1 : Asc ds) (h2 : Asc xs) : Asc D' ∧ Asc A' := by
  obtain ⟨D1, A1, rfl, rfl, _⟩ := h
  exact ⟨asc_right h1, asc_right h2⟩
theorem EI.dis {Ls : List (List (List Int))} {ds xs D' A' R : List Int} {k : Nat} (h : EI Ls ds xs k D' A' R) (hD : Dis xs (ents Ls)) (hk : k < Ls.length) : Dis A' (lv Ls k).flatten := by
  obtain ⟨D1, A1, rfl, rfl, _⟩ := h
  intro x hx hl
  refine hD x (by simp [hx]) ?_
  rw [ents_split hk]
  simp only [List.mem_append]
  exact .inr (.inl hl)
theorem EI.len {Ls : List (List (List Int))} {ds xs D' A' R : List Int} {k : Nat} (h : EI Ls ds xs k D' A' R) : R.length + D'.length + A'.length + (ents (Ls.drop k)).length ≤ (ents Ls).length + ds.length + xs.length ∧ R.length + A'.length + (ents (Ls.drop k)).length ≤ (ents Ls).length + xs.length ∧ D'.length ≤ ds.length := by
  obtain ⟨D1, A1, rfl, rfl, hE, _⟩ := h
  have := hE.len
  have e := congrArg List.length (ents_cut Ls k)
  simp only [List.length_append] at *
  omega

/-- child k, not the last: what falls in it is cut off -/
theorem EI.cut {Ls : List (List (List Int))} {ds xs D' A' R : List Int} {k i j : Nat} (h : EI Ls ds xs k D' A' R) (hk : k + 1 < Ls.length) (hne : 1 ≤ (lv Ls k).flatten.length) (hA : Asc (ents Ls)) (hS : Sub ds (ents Ls))
    (hi : Upto D' (lastOf Ls k) i) (hj : Upto A' (lastOf Ls k) j) :
    Sub (D'.take i) (lv Ls k).flatten ∧ ∀ R', Ed (lv Ls k).flatten (D'.take i) (A'.take j) R' → EI Ls ds xs (k + 1) (D'.drop i) (A'.drop j) (R ++ R') := by
  have hk' : k < Ls.length := by omega
  have hd := ents_drop hk'
  have hlast : lastOf Ls k ∈ (lv Ls k).flatten := el_mem (by omega)
  have hgt : ∀ y, y ∈ ents (Ls.drop (k + 1)) → lastOf Ls k < y := fun y hy => by
    have e := ents_cut Ls k
    rw [hd] at e
    rw [e] at hA
    exact asc_mid (asc_right hA) hlast hy
  have t1 : ∀ {zs : List Int} {q : Nat}, Upto zs (lastOf Ls k) q → ∀ x, x ∈ zs.take q → x ≤ lastOf Ls k := fun hq x hx => by
    obtain ⟨m, h1, h2, rfl⟩ := mem_take_el.1 hx
    exact hq.2.1 m h1
  have t2 : ∀ {zs : List Int} {q : Nat}, Upto zs (lastOf Ls k) q → ∀ x, x ∈ zs.drop q → lastOf Ls k < x := fun {zs q} hq x hx => by
    obtain ⟨m, h1, rfl⟩ := mem_iff.1 hx
    rw [el_drop]
    exact hq.2.2 _ (by omega) (by simp at h1; omega)
  refine ⟨fun x hx => ?_, fun R' hR => ?_⟩
  · have hx' := h.sub hS x (List.mem_of_mem_take hx)
    rw [hd, List.mem_append] at hx'
    rcases hx' with h' | h'
    · exact h'
    · have := hgt x h'
      have := t1 hi x hx
      omega
  · refine EI.step (d := D'.take i) (a := A'.take j) (by rw [List.take_append_drop, List.take_append_drop]; exact h) hk' hA hR (fun x hx y hy => ?_) (fun x hx y hy => ?_) (fun e => by omega)
    · have h1 : x ≤ lastOf Ls k := by
        rcases hx with hx | hx | hx
        · exact last_ge (asc_lv hk' hA) hx
        · exact t1 hi x hx
        · exact t1 hj x hx
      have h2 : lastOf Ls k < y := by
        rcases hy with hy | hy
        · exact t2 hi y hy
        · exact t2 hj y hy
      omega
    · have h1 : x ≤ lastOf Ls k := by
        rcases hx with hx | hx
        · exact t1 hi x hx
        · exact t1 hj x hx
      have := hgt y hy
      omega

/-- the last child takes all that is left -/
theorem EI.rest {Ls : List (List (List Int))} {ds xs D' A' R : List Int} {k : Nat} (h : EI Ls ds xs k D' A' R) (hk : k + 1 = Ls.length) (hA : Asc (ents Ls)) (hS : Sub ds (ents Ls)) :
    Sub D' (lv Ls k).flatten ∧ ∀ R', Ed (lv Ls k).flatten D' A' R' → EI Ls ds xs (k + 1) [] [] (R ++ R') := by
  have hk' : k < Ls.length := by omega
  have hd := ents_drop hk'
  have h0 : ents (Ls.drop (k + 1)) = [] := by rw [List.drop_of_length_le (by omega)]; rfl
  refine ⟨fun x hx => ?_, fun R' hR => ?_⟩
  · have := h.sub hS x hx
    rw [hd, h0] at this
    simpa using this
  · refine EI.step (d := D') (a := A') (by simpa using h) hk' hA hR (fun x hx y hy => by simp at hy) (fun x hx y hy => by rw [h0] at hy; simp at hy) (fun _ => ⟨rfl, rfl⟩)

/-- the smaller of the heads -/
def nextOf (D A : List Int) : Int := if A = [] ∨ (D ≠ [] ∧ el D 0 < el A 0) then el D 0 else el A 0
theorem nextOf_le {D A : List Int} (h1 : Asc D) (h2 : Asc A) : ∀ y, y ∈ D ∨ y ∈ A → nextOf D A ≤ y := by
  have head : ∀ {zs : List Int}, Asc zs → ∀ y, y ∈ zs → el zs 0 ≤ y := fun hz y hy => by
    obtain ⟨j, hj, rfl⟩ := mem_iff.1 hy
    exact hz.le (by omega) hj
  intro y hy
  unfold nextOf
  split
  · rename_i hc
    rcases hy with hy | hy
    · exact head h1 y hy
    · have := head h2 y hy
      rcases hc with rfl | ⟨_, hc⟩
      · simp at hy
      · omega
  · rename_i hc
    rcases hy with hy | hy
    · have := head h1 y hy
      have : D ≠ [] := fun e => by subst e; simp at hy
      have : ¬ el D 0 < el A 0 := fun h => hc (.inr ⟨this, h⟩)
      omega
    · exact head h2 y hy
theorem nextOf_mem {D A : List Int} (h : 0 < D.length + A.length) : nextOf D A ∈ D ∨ nextOf D A ∈ A := by
  unfold nextOf
  split
  · rename_i hc
    refine .inl (el_mem ?_)
    rcases hc with rfl | ⟨hc, _⟩
    · simpa using h
    · exact List.length_pos_iff.2 hc
  · rename_i hc
    refine .inr (el_mem ?_)
    exact List.length_pos_iff.2 fun e => hc (.inl e)
/-- the child that the next entry falls in is not done yet -/
theorem EI.next {Ls : List (List (List Int))} {ds xs D' A' R : List Int} {k c : Nat} (h : EI Ls ds xs k D' A' R) (hne : 0 < D'.length + A'.length) (hk1 : ∀ i, i < Ls.length → 1 ≤ (lv Ls i).flatten.length) (hc : c + 1 ≤ Ls.length)
    (hge : ∀ i, c ≤ i → i + 1 < Ls.length → nextOf D' A' ≤ lastOf Ls i) : k ≤ c := by
  obtain ⟨D1, A1, rfl, rfl, hE1, hkl, hend, hsep⟩ := h
  rcases Nat.lt_or_ge c k with hlt | hle
  · exfalso
    have hkm : k < Ls.length := by
      rcases Nat.lt_or_ge k Ls.length with h | h
      · exact h
      · obtain ⟨rfl, rfl⟩ := hend (by omega); simp at hne
    have hm : lastOf Ls (k - 1) ∈ ents (Ls.take k) := by
      obtain ⟨q, rfl⟩ : ∃ q, k = q + 1 := ⟨k - 1, by omega⟩
      rw [ents_take_succ (by omega)]
      have h1 := hk1 q (by omega)
      refine List.mem_append.2 (.inr ?_)
      show el (lv Ls (q + 1 - 1)).flatten _ ∈ _
      rw [Nat.add_sub_cancel]
      exact el_mem (by omega)
    have h1 := hsep _ (.inl hm) (nextOf D' A') (.inr (nextOf_mem hne))
    have h2 := hge (k - 1) (by omega) (by omega)
    omega
  · exact hle
end Go.Proofs.Qxb6613757a.T
