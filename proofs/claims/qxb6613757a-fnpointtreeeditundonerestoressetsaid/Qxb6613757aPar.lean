import Derived.Test.Qxb6613757aLvs
/-
  appendParents: levels in their own block; the laws of its worlds.
-/
namespace Go.Proofs.Qxb6613757a.T
open Go.RowKit Go.Shelf
set_option linter.unusedVariables false
set_option linter.unusedSimpArgs false

theorem recCells_take (rs : List Rec) (k : Nat) : (recCells rs).take (k * 5) = recCells (rs.take k) := by
  induction rs generalizing k with
  | nil => simp [recCells]
  | cons r rs ih =>
    cases k with
    | zero => simp [recCells]
    | succ k =>
      have e : recCells (r :: rs) = r.cells ++ recCells rs := rfl
      have e2 : recCells (r :: rs.take k) = r.cells ++ recCells (rs.take k) := rfl
      rw [List.take_succ_cons, e, e2, ← ih k, List.take_append, List.take_of_length_le (by simp [Rec.cells]; omega)]
      congr 2
      simp [Rec.cells]; omega
theorem recCells_drop (rs : List Rec) (k : Nat) : (recCells rs).drop (k * 5) = recCells (rs.drop k) := by
  induction rs generalizing k with
  | nil => simp [recCells]
  | cons r rs ih =>
    cases k with
    | zero => simp
    | succ k =>
      have e : recCells (r :: rs) = r.cells ++ recCells rs := rfl
      rw [List.drop_succ_cons, e, ← ih k, List.drop_append, List.drop_of_length_le (by simp [Rec.cells]; omega)]
      simp only [List.nil_append]
      congr 1
      simp [Rec.cells]; omega
theorem recCells_set (rs : List Rec) (i : Nat) (h : i < rs.length) (r : Rec) : recCells (rs.set i r) = (recCells rs).take (i * 5) ++ r.cells ++ (recCells rs).drop (i * 5 + 5) := by
  rw [recCells_take, show i * 5 + 5 = (i + 1) * 5 by omega, recCells_drop, List.set_eq_take_append_cons_drop, if_pos h, recCells_append]
  simp [recCells]

/-- the records of a level, where they lie -/
theorem recs_own {w : World} {g N cap : Nat} {rs : List Rec} (h : w.ownsRow 0 81 5 (.slice (some ⟨g, 0, none⟩) N cap) N (recCells rs)) (hN : rs.length = N) (s m : Nat) (hs : s + m ≤ N) :
    RecsAt w g (s * 5) ((rs.drop s).take m) := by
  intro i hi
  have hi' : i < m := by simp at hi; omega
  rw [rc_take hi', rc_drop]
  have key : ∀ j, j < 5 → w.cell? ⟨g, s * 5 + i * 5 + j, none⟩ = (rc rs (s + i)).cells[j]? := fun j hj => by
    have e : s * 5 + i * 5 + j = 5 * (s + i) + j := by omega
    rw [e, h.cellAt _ (by omega), recCells_at rs (s + i) j (by omega) hj]
  exact ⟨key 0 (by omega), key 1 (by omega), key 2 (by omega), key 3 (by omega), key 4 (by omega)⟩

theorem own_shape81 {w : World} {g N cap : Nat} {xs : List Value} (h : w.ownsRow 0 81 5 (.slice (some ⟨g, 0, none⟩) N cap) N xs) : N ≤ cap ∧ cap ≤ maxLen ∧ ∃ cur, w.heap[g]? = some (.cells cur 81 (0, 0)) ∧ cur.size = cap * 5 ∧ cur.toList.take (N * 5) = xs := by
  rcases h.2 with ⟨e, _⟩ | ⟨g', cap', cur, e, _, hg, h1, h2, h3, h4⟩
  · cases e
  · cases e; exact ⟨h1, h2, cur, hg, h3, h4⟩

theorem take_mid {α : Type} (L c : List α) (i n : Nat) (hc : c.length = 5) (h1 : i + 5 ≤ n) (h2 : n ≤ L.length) : (L.take i ++ c ++ L.drop (i + 5)).take n = (L.take n).take i ++ c ++ (L.take n).drop (i + 5) := by
  have hA : (L.take i ++ c).length = i + 5 := by rw [List.length_append, List.length_take, hc]; omega
  rw [List.take_append (l₁ := L.take i ++ c), hA, List.take_of_length_le (l := L.take i ++ c) (by omega), List.take_take, List.drop_take, Nat.min_eq_left (by omega)]

/-- an append of one record into the room behind: the level with one record turned -/
theorem run_app_in {w : World} {g N cap : Nat} {rs : List Rec} (h : w.ownsRow 0 81 5 (.slice (some ⟨g, 0, none⟩) N cap) N (recCells rs)) (hN : rs.length = N) (i : Nat) (hi : i < N) (ty : TypeId) (ad : Addr) (c : Nat) (r : Rec)
    (hnews : ∀ j u, r.cells[j]? = some u → w.cell? (ad.add j) = some u) :
    ∃ w', (Builtin.append_ #[63, 63] ty #[.slice (some ⟨g, 0, none⟩) i cap, .slice (some ad) 1 c]).run Try.prog w = .ok (.slice (some ⟨g, 0, none⟩) (i + 1) cap) w' ∧
      w'.ownsRow 0 81 5 (.slice (some ⟨g, 0, none⟩) N cap) N (recCells (rs.set i r)) ∧ w.grownBy w' (some g) := by
  obtain ⟨h1, h2, cur, hg, hs, ht⟩ := own_shape81 h
  obtain ⟨info, hi0, hz, hsize, hby⟩ := info_parts info81
  have hr5 : r.cells.length = 5 := rfl
  have hr := run_append_room (P := Try.prog) w 63 ty 81 info Try.underlying63 hi0 g i cap cur hg ad 1 c r.cells (by rw [hsize]; rfl) hnews (rec_one r) (by omega) (by rw [hsize, hr5, hs]; omega)
  rw [hsize] at hr
  refine ⟨_, hr, ⟨by rw [recCells_length, List.length_set, hN], .inr ⟨g, cap, _, rfl, Nat.zero_le _, setRow_heap w g cur _ 81 _ hg, h1, h2, ?_, ?_⟩⟩, ⟨rfl, rfl, rfl, by simp, fun k _ hk => setRow_other w g k _ (fun e => hk (by simp [e]))⟩⟩
  · simp only [List.size_toArray, List.length_append, List.length_take, List.length_drop, Array.length_toList, hr5]
    omega
  · rw [recCells_set rs i (by omega), ← ht]
    have hlc : cur.toList.length = cap * 5 := by rw [Array.length_toList, hs]
    rw [hr5]
    exact take_mid _ _ _ _ hr5 (by omega) (by omega)

end Go.Proofs.Qxb6613757a.T
