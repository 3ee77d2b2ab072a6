import Derived.Test.Qxb6613757aZz
import Derived.Deep.RegionHeldLaw
import Derived.BigQuiet
/-
  addLeaves, leaves.
-/
namespace Go.Proofs.Qxb6613757a.T
open Go.RowKit Go.Shelf
set_option linter.unusedVariables false
set_option linter.unusedSimpArgs false

theorem info37 : (Try.prog.info? 37).map (fun i => (i.zero, i.size, i.bytes)) = some (some (.slice none 0 0), 1, 24) := by kernel_rfl

/-- the slices vals hold the leaves L -/
def Leafs (w : World) (vals : List Value) (L : List (List Int)) : Prop := vals.length = L.length ∧ ∀ (i : Nat) (h : i < L.length), ∃ a c, vals[i]? = some (.slice a L[i].length c) ∧ Row w a L[i]
theorem Leafs.k2 {w w' : World} {vals : List Value} {L : List (List Int)} (h : Leafs w vals L) (k : K2 w w') : Leafs w' vals L := ⟨h.1, fun i hi => by
  obtain ⟨a, c, e, hr⟩ := h.2 i hi
  exact ⟨a, c, e, hr.k2 k⟩⟩
theorem Leafs.append {w : World} {vs us : List Value} {L M : List (List Int)} (h1 : Leafs w vs L) (h2 : Leafs w us M) : Leafs w (vs ++ us) (L ++ M) := by
  refine ⟨by simp [h1.1, h2.1], fun i hi => ?_⟩
  by_cases hl : i < L.length
  · obtain ⟨a, c, e, hr⟩ := h1.2 i hl
    exact ⟨a, c, by rw [List.getElem?_append_left (by rw [h1.1]; exact hl), e, List.getElem_append_left hl], by rw [List.getElem_append_left hl]; exact hr⟩
  · have hi2 : i - L.length < M.length := by simp at hi; omega
    obtain ⟨a, c, e, hr⟩ := h2.2 (i - L.length) hi2
    exact ⟨a, c, by rw [List.getElem?_append_right (by rw [h1.1]; omega), h1.1, e, List.getElem_append_right (by omega)], by rw [List.getElem_append_right (by omega)]; exact hr⟩
/-- the leaves' cells of a lowest node -/
def leafVals (rs : List Rec) : List Value := rs.map fun r => .slice r.la r.ll r.lc
theorem kids_leafs {w : World} {m : Nat} {rs : List Rec} {Ls : List (List (List Int))} (hl : rs.length = m) (hL : Ls.length = m) (hk : ∀ i, i < m → KidRec w 0 (rc rs i) (lv Ls i)) : Leafs w (leafVals rs) Ls.flatten := by
  subst hl
  induction rs generalizing Ls with
  | nil =>
    obtain rfl : Ls = [] := List.eq_nil_of_length_eq_zero (by simpa using hL)
    exact ⟨rfl, fun i h => by simp at h⟩
  | cons r rs ih =>
    match Ls, hL with
    | L :: Ls, hL =>
      have h0 := hk 0 (by simp)
      have hrest := ih (Ls := Ls) (by simpa using hL) (fun i hi => hk (i + 1) (by simp; omega))
      obtain ⟨zs, e, h1, h2, h3, h4, h5, h6, _⟩ := h0
      have e' : L = [zs] := e
      have : Leafs w [.slice r.la r.ll r.lc] L := by
        rw [e']
        refine ⟨rfl, fun i hi => ?_⟩
        have : i = 0 := by simp at hi; omega
        subst this
        exact ⟨r.la, r.lc, by simp; exact h5, h4⟩
      exact this.append hrest

end Go.Proofs.Qxb6613757a.T
