import Derived.Test.Qxb6613757aNodeG
import Derived.Test.Qxb6613757aMrgLaw
/-
  WHAT A TREE IS: a child (a leaf, or a node) at height h, with the leaves under it.
-/
namespace Go.Proofs.Qxb6613757a.T
open Go.RowKit
set_option linter.unusedVariables false
set_option linter.unusedSimpArgs false

/-- every row of uint64s and every node lies as it lay -/
def K2 (w w' : World) : Prop := ∀ (b : Nat) (cur : Array Value) (t : TypeId) (fr : Nat × Nat), (t = 23 ∨ t = 73) → w.heap[b]? = some (.cells cur t fr) → w'.heap[b]? = some (.cells cur t fr)
theorem K2.refl (w : World) : K2 w w := fun _ _ _ _ _ h => h
theorem K2.trans {a b c : World} (h : K2 a b) (k : K2 b c) : K2 a c := fun x cur t fr ht hx => k x cur t fr ht (h x cur t fr ht hx)
theorem K2.below {w w' : World} (h : Below w.heap.size w w') : K2 w w' := fun b cur t fr _ hb => by
  rw [h.block b (Array.getElem?_eq_some_iff.1 hb).1]; exact hb
theorem K2.grown {w w' : World} {row : Option Nat} (h : w.grownBy w' row) (hl : ∀ l, row = some l → ∀ (cur : Array Value) (t : TypeId) (fr : Nat × Nat), w.heap[l]? = some (.cells cur t fr) → t ≠ 23 ∧ t ≠ 73) : K2 w w' := fun b cur t fr ht hb => by
  rw [h.block b (Array.getElem?_eq_some_iff.1 hb).1 (fun e => by
    have := hl b e.symm cur t fr hb
    rcases ht with h' | h'
    · exact this.1 h'
    · exact this.2 h')]
  exact hb
theorem K2.alloc (w : World) (o : Obj) : K2 w (w.alloc o) := K2.below ((Below.refl _ w).alloc (Nat.le_refl _) o)
theorem K2.drew (w : World) : K2 w w.drew := fun _ _ _ _ _ h => h
theorem K2.setCell {w : World} {p : Addr} {cur : Array Value} {t : TypeId} {fr : Nat × Nat} (hp : w.heap[p.block]? = some (.cells cur t fr)) (ht : t ≠ 23 ∧ t ≠ 73) (v : Value) : K2 w (w.setCell p v) := fun b c u f hu hb => by
  rw [Below.heap_setCell _ _ _ _ (fun e => by
    subst e
    rw [hp] at hb
    cases hb
    rcases hu with h' | h'
    · exact ht.1 h'
    · exact ht.2 h')]
  exact hb
theorem Row.k2 {w w' : World} {a : Option Addr} {zs : List Int} (h : Row w a zs) (k : K2 w w') : Row w' a zs := by
  rcases h with rfl | ⟨b, o, cur, fr, rfl, hb, hc⟩
  · exact .inl rfl
  · exact .inr ⟨b, o, cur, fr, rfl, k b cur 23 fr (.inl rfl) hb, hc⟩
theorem rowIs_k2 {w w' : World} {b n : Nat} {f : Nat → Value} (h : w.rowIs b 73 n f) (k : K2 w w') : w'.rowIs b 73 n f := by
  obtain ⟨c, hb, hn, hc⟩ := h
  exact ⟨c, k b c 73 (0, 0) (.inr rfl) hb, hn, hc⟩

def lv (Ls : List (List (List Int))) (i : Nat) : List (List Int) := Ls.getD i []

/-- child r, at height h, with the leaves L under it -/
def KidRec (w : World) : Nat → Rec → List (List Int) → Prop
  | 0, r, L => ∃ zs, L = [zs] ∧ 1 ≤ zs.length ∧ zs.length ≤ 64 ∧ r.node = none ∧ Row w r.la zs ∧ r.ll = zs.length ∧ r.ll ≤ r.lc ∧ r.last = el zs (zs.length - 1) ∧ r.count = zs.length
  | h + 1, r, L => ∃ (nb m : Nat) (rs : List Rec) (Ls : List (List (List Int))), r.node = some ⟨nb, 0, none⟩ ∧ w.rowIs nb 73 66 (nodeCell m (h == 0) rs m) ∧ rs.length = m ∧ Ls.length = m ∧ 1 ≤ m ∧ m ≤ 16 ∧ L = Ls.flatten ∧
      (∀ i, i < m → KidRec w h (rc rs i) (lv Ls i)) ∧ r.last = (rc rs (m - 1)).last ∧ r.count = L.flatten.length

theorem KidRec.k2 {w w' : World} (k : K2 w w') : ∀ {h : Nat} {r : Rec} {L : List (List Int)}, KidRec w h r L → KidRec w' h r L
  | 0, r, L, hk => by
    obtain ⟨zs, e, h1, h2, hn, hr, rest⟩ := hk
    exact ⟨zs, e, h1, h2, hn, hr.k2 k, rest⟩
  | h + 1, r, L, hk => by
    obtain ⟨nb, m, rs, Ls, e, hr, h1, h2, h3, h4, h5, h6, rest⟩ := hk
    exact ⟨nb, m, rs, Ls, e, rowIs_k2 hr k, h1, h2, h3, h4, h5, fun i hi => (h6 i hi).k2 k, rest⟩

/-- a level: children of one height, each with its leaves -/
def Kids (w : World) (h : Nat) (rs : List Rec) (Ls : List (List (List Int))) : Prop := rs.length = Ls.length ∧ ∀ i, i < rs.length → KidRec w h (rc rs i) (lv Ls i)
theorem Kids.k2 {w w' : World} {h : Nat} {rs : List Rec} {Ls : List (List (List Int))} (hk : Kids w h rs Ls) (k : K2 w w') : Kids w' h rs Ls := ⟨hk.1, fun i hi => (hk.2 i hi).k2 k⟩
theorem rc_app_left {rs ss : List Rec} {i : Nat} (h : i < rs.length) : rc (rs ++ ss) i = rc rs i := by simp [rc, List.getElem?_append_left h]
theorem rc_app_right {rs ss : List Rec} {i : Nat} (h : rs.length ≤ i) : rc (rs ++ ss) i = rc ss (i - rs.length) := by simp [rc, List.getElem?_append_right h]
theorem lv_app_left {rs ss : List (List (List Int))} {i : Nat} (h : i < rs.length) : lv (rs ++ ss) i = lv rs i := by simp [lv, List.getElem?_append_left h]
theorem lv_app_right {rs ss : List (List (List Int))} {i : Nat} (h : rs.length ≤ i) : lv (rs ++ ss) i = lv ss (i - rs.length) := by simp [lv, List.getElem?_append_right h]
theorem Kids.append {w : World} {h : Nat} {rs ss : List Rec} {Ls Ms : List (List (List Int))} (h1 : Kids w h rs Ls) (h2 : Kids w h ss Ms) : Kids w h (rs ++ ss) (Ls ++ Ms) := by
  refine ⟨by simp [h1.1, h2.1], fun i hi => ?_⟩
  by_cases hl : i < rs.length
  · rw [rc_app_left hl, lv_app_left (by rw [← h1.1]; exact hl)]; exact h1.2 i hl
  · rw [rc_app_right (by omega), lv_app_right (by rw [← h1.1]; omega), ← h1.1]
    exact h2.2 _ (by simp at hi; omega)
theorem Kids.nil (w : World) (h : Nat) : Kids w h [] [] := ⟨rfl, fun i hi => by simp at hi⟩
theorem Kids.one {w : World} {h : Nat} {r : Rec} {L : List (List Int)} (hk : KidRec w h r L) : Kids w h [r] [L] := ⟨rfl, fun i hi => by
  have : i = 0 := by simp at hi; omega
  subst this; exact hk⟩
theorem rc_drop {rs : List Rec} {k i : Nat} : rc (rs.drop k) i = rc rs (k + i) := by simp [rc]
theorem rc_take {rs : List Rec} {k i : Nat} (h : i < k) : rc (rs.take k) i = rc rs i := by simp [rc, h]
theorem lv_drop {rs : List (List (List Int))} {k i : Nat} : lv (rs.drop k) i = lv rs (k + i) := by simp [lv]
theorem lv_take {rs : List (List (List Int))} {k i : Nat} (h : i < k) : lv (rs.take k) i = lv rs i := by simp [lv, h]
theorem Kids.drop {w : World} {h : Nat} {rs : List Rec} {Ls : List (List (List Int))} (hk : Kids w h rs Ls) (k : Nat) : Kids w h (rs.drop k) (Ls.drop k) := by
  refine ⟨by simp [hk.1], fun i hi => ?_⟩
  rw [rc_drop, lv_drop]; exact hk.2 _ (by simp at hi; omega)
theorem Kids.take {w : World} {h : Nat} {rs : List Rec} {Ls : List (List (List Int))} (hk : Kids w h rs Ls) (k : Nat) : Kids w h (rs.take k) (Ls.take k) := by
  refine ⟨by simp [hk.1], fun i hi => ?_⟩
  rw [rc_take (by simp at hi; omega), lv_take (by simp at hi; omega)]; exact hk.2 _ (by simp at hi; omega)

/-- all the entries under a list of children -/
def ents (Ls : List (List (List Int))) : List Int := Ls.flatten.flatten

theorem flat_last {Ls : List (List (List Int))} (h : Ls ≠ []) : Ls.flatten = (Ls.take (Ls.length - 1)).flatten ++ lv Ls (Ls.length - 1) := by
  have hl : Ls.length - 1 < Ls.length := by have := List.length_pos_iff.2 h; omega
  have e : Ls = Ls.take (Ls.length - 1) ++ [Ls[Ls.length - 1]] := by
    have := List.take_succ_eq_append_getElem hl
    rw [← this, List.take_of_length_le (by omega)]
  conv => lhs; rw [e]
  rw [List.flatten_append]
  simp [lv, hl]

/-- under a child there is an entry, and its last is the largest -/
theorem KidRec.some_last {w : World} : ∀ {h : Nat} {r : Rec} {L : List (List Int)}, KidRec w h r L → 1 ≤ L.flatten.length ∧ r.last = el L.flatten (L.flatten.length - 1) ∧ r.count = L.flatten.length ∧ (∀ z ∈ L, 1 ≤ z.length ∧ z.length ≤ 64)
  | 0, r, L, hk => by
    obtain ⟨zs, rfl, h1, h2, hn, hr, hll, hlc, hlast, hcount⟩ := hk
    simp only [List.flatten_cons, List.flatten_nil, List.append_nil]
    exact ⟨h1, hlast, hcount, fun z hz => by simp at hz; subst hz; exact ⟨h1, h2⟩⟩
  | h + 1, r, L, hk => by
    obtain ⟨nb, m, rs, Ls, e, hr, h1, h2, h3, h4, rfl, h6, h7, h8⟩ := hk
    obtain ⟨i1, i2, _, _⟩ := (h6 (m - 1) (by omega)).some_last
    have hne : Ls ≠ [] := by intro hh; subst hh; simp at h2; omega
    have ef := flat_last hne
    rw [h2] at ef
    have ef2 : Ls.flatten.flatten = (Ls.take (m - 1)).flatten.flatten ++ (lv Ls (m - 1)).flatten := by
      conv => lhs; rw [ef]
      rw [List.flatten_append]
    have el1 : Ls.flatten.flatten.length = (Ls.take (m - 1)).flatten.flatten.length + (lv Ls (m - 1)).flatten.length := by
      rw [ef2, List.length_append]
    refine ⟨by omega, ?_, h8, fun z hz => ?_⟩
    · rw [h7, i2, ef2, el_append_right _ _ _ (by rw [List.length_append]; omega)]
      congr 1
      rw [List.length_append]; omega
    · obtain ⟨M, hM, hz2⟩ := List.mem_flatten.1 hz
      obtain ⟨i, hi, rfl⟩ := List.getElem_of_mem hM
      have := (h6 i (by omega)).some_last.2.2.2 z
      simp only [lv, List.getD_eq_getElem?_getD, List.getElem?_eq_getElem hi, Option.getD_some] at this
      exact this hz2

end Go.Proofs.Qxb6613757a.T
