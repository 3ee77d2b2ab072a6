import Derived.Test.Qxb6613757aApp
import Derived.Test.Qxb6613757aSet
import Derived.Deep.OwnRows
/-
  THE TREE IN MEMORY: records of treeChilds, nodes, leaves.
-/
namespace Go.Proofs.Qxb6613757a.T
open Go.RowKit
set_option linter.unusedVariables false
set_option linter.unusedSimpArgs false

/-- a treeChild as it lies in memory: five cells -/
structure Rec where
  last : Int
  count : Int
  la : Option Addr
  ll : Nat
  lc : Nat
  node : Option Addr
  fresh : Bool
def rec0 : Rec := ⟨0, 0, none, 0, 0, none, false⟩
def Rec.cells (r : Rec) : List Value := [.int .u64 r.last, .int .i64 r.count, .slice r.la r.ll r.lc, .pointer r.node, .bool r.fresh]
def Rec.val (r : Rec) : Value := .agg #[.int .u64 r.last, .int .i64 r.count, .slice r.la r.ll r.lc, .pointer r.node, .bool r.fresh]
def rc (rs : List Rec) (i : Nat) : Rec := rs.getD i rec0
theorem rc_eq (rs : List Rec) (i : Nat) (h : i < rs.length) : rc rs i = rs[i] := by simp [rc, h]
def recCells (rs : List Rec) : List Value := rs.flatMap Rec.cells
theorem recCells_length (rs : List Rec) : (recCells rs).length = rs.length * 5 := by
  induction rs with
  | nil => rfl
  | cons r rs ih =>
    have : recCells (r :: rs) = r.cells ++ recCells rs := rfl
    rw [this, List.length_append, ih, List.length_cons]; simp [Rec.cells]; omega
theorem recCells_append (rs ss : List Rec) : recCells (rs ++ ss) = recCells rs ++ recCells ss := by simp [recCells]
theorem recCells_at : ∀ (rs : List Rec) (i j : Nat), i < rs.length → j < 5 → (recCells rs)[5 * i + j]? = (rc rs i).cells[j]?
  | [], i, j, h, _ => by simp at h
  | r :: rs, 0, j, _, hj => by
    have : recCells (r :: rs) = r.cells ++ recCells rs := rfl
    rw [this, Nat.mul_zero, Nat.zero_add, List.getElem?_append_left (by simp [Rec.cells]; omega)]; rfl
  | r :: rs, i + 1, j, h, hj => by
    have : recCells (r :: rs) = r.cells ++ recCells rs := rfl
    rw [this, List.getElem?_append_right (by simp [Rec.cells]; omega)]
    have e : 5 * (i + 1) + j - r.cells.length = 5 * i + j := by simp [Rec.cells]; omega
    rw [e]
    exact recCells_at rs i j (by simpa using h) hj
theorem recCells_one (rs : List Rec) : ∀ u ∈ recCells rs, u.oneCell' = true := by
  intro u hu
  obtain ⟨r, _, h⟩ := List.mem_flatMap.1 hu
  simp only [Rec.cells, List.mem_cons, List.not_mem_nil, or_false] at h
  rcases h with rfl | rfl | rfl | rfl | rfl <;> rfl

/-- records lie at cell o of block b -/
def RecsAt (w : World) (b o : Nat) (rs : List Rec) : Prop := ∀ i, i < rs.length →
  w.cell? ⟨b, o + i * 5, none⟩ = some (.int .u64 (rc rs i).last) ∧ w.cell? ⟨b, o + i * 5 + 1, none⟩ = some (.int .i64 (rc rs i).count) ∧ w.cell? ⟨b, o + i * 5 + 2, none⟩ = some (.slice (rc rs i).la (rc rs i).ll (rc rs i).lc) ∧
  w.cell? ⟨b, o + i * 5 + 3, none⟩ = some (.pointer (rc rs i).node) ∧ w.cell? ⟨b, o + i * 5 + 4, none⟩ = some (.bool (rc rs i).fresh)

/-- what cell j of a treeNode's row holds when its first k children are laid -/
def nodeCell (m : Nat) (low : Bool) (rs : List Rec) (k j : Nat) : Value :=
  if j = 0 then .int .i64 m
  else if j = 1 then .bool low
  else if j < 18 then .int .u64 (if j - 2 < k then (rc rs (j - 2)).last else 0)
  else if j < 34 then .int .i32 (if j - 18 < k ∧ low = false then (rc rs (j - 18)).count else 0)
  else if j < 50 then (if j - 34 < k ∧ low = true then .slice (rc rs (j - 34)).la (rc rs (j - 34)).ll (rc rs (j - 34)).lc else .slice none 0 0)
  else .pointer (if j - 50 < k ∧ low = false then (rc rs (j - 50)).node else none)

theorem rowIs_kept {w w' : World} {b n : Nat} {t : TypeId} {f : Nat → Value} (h : w.rowIs b t n f) (ht : t ≠ 81) (k : Kt w w') : w'.rowIs b t n f := by
  obtain ⟨c, hb, hn, hc⟩ := h
  exact ⟨c, k b c t (0, 0) ht hb, hn, hc⟩

def sumC (rs : List Rec) : Int := (rs.map Rec.count).sum
theorem sumC_take_succ {rs : List Rec} {k : Nat} (h : k < rs.length) : sumC (rs.take (k + 1)) = sumC (rs.take k) + (rc rs k).count := by
  unfold sumC
  rw [List.take_succ_eq_append_getElem h, List.map_append, List.sum_append, rc_eq rs k h]; simp
/-- counts that no sum of sixteen of them takes out of an int's range -/
def Modest (rs : List Rec) : Prop := ∀ i, i < rs.length → 0 ≤ (rc rs i).count ∧ (rc rs i).count ≤ 1048576
theorem sumC_le {rs : List Rec} (h : Modest rs) : ∀ k, k ≤ rs.length → 0 ≤ sumC (rs.take k) ∧ sumC (rs.take k) ≤ 1048576 * k
  | 0, _ => by simp [sumC]
  | k + 1, hk => by
    have := sumC_le h k (by omega)
    have := h k (by omega)
    rw [sumC_take_succ (by omega)]
    omega

theorem RecsAt.kept {w w' : World} {b o B : Nat} {rs : List Rec} (h : RecsAt w b o rs) (hb : Below B w w') (hB : b < B) : RecsAt w' b o rs := fun i hi => by
  obtain ⟨h0, h1, h2, h3, h4⟩ := h i hi
  refine ⟨?_, ?_, ?_, ?_, ?_⟩ <;> (rw [hb.cell hB]; assumption)

end Go.Proofs.Qxb6613757a.T
