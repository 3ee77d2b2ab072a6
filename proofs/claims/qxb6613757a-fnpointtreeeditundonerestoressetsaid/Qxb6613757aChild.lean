import Derived.Test.Qxb6613757aNew
/-
  treeNode.child, treeChild.small.
-/
namespace Go.Proofs.Qxb6613757a.T
open Go.RowKit Go.Shelf
set_option linter.unusedVariables false
set_option linter.unusedSimpArgs false

/-- is this child small: fresh, and less than a quarter full (s: its entries, or its children) -/
def smallOf (r : Rec) (s : Nat) : Bool := if r.node = none then r.fresh && decide (r.count < 16) else r.fresh && decide (s < 4)

set_option maxRecDepth 100000 in
set_option maxHeartbeats 2000000 in
theorem small53_leaf (r : Rec) (w : World) (hn : r.node = none) : Calls Try.prog 53 #[r.val] w fun e w' => Below w.heap.size w w' ∧ e = .returned (.bool (r.fresh && decide (r.count < 16))) := by
  obtain ⟨last, count, la, ll, lc, node, fresh⟩ := r
  simp only at hn
  subst hn
  have hB := (Below.refl w.heap.size w).alloc (Nat.le_refl _) (.cells #[.int .u64 last, .int .i64 count, .slice la ll lc, .pointer none, .bool fresh] 81)
  cases fresh <;>
  · unfold Rec.val
    go_enter Try.func53, Try.ntmps53
    go_wp2
    go_ret
    exact ⟨hB, by simp⟩

set_option maxRecDepth 100000 in
set_option maxHeartbeats 2000000 in
theorem small53_node (r : Rec) (nb s : Nat) (w : World) (hn : r.node = some ⟨nb, 0, none⟩) (hs : w.cell? ⟨nb, 0, none⟩ = some (.int .i64 s)) : Calls Try.prog 53 #[r.val] w fun e w' => Below w.heap.size w w' ∧ e = .returned (.bool (r.fresh && decide (s < 4))) := by
  obtain ⟨last, count, la, ll, lc, node, fresh⟩ := r
  simp only at hn
  subst hn
  have hB := (Below.refl w.heap.size w).alloc (Nat.le_refl _) (.cells #[.int .u64 last, .int .i64 count, .slice la ll lc, .pointer (some ⟨nb, 0, none⟩), .bool fresh] 81)
  have hlt := World.block_lt_of_cell? w ⟨nb, 0, none⟩ hs
  have hs2 : (w.alloc (.cells #[.int .u64 last, .int .i64 count, .slice la ll lc, .pointer (some ⟨nb, 0, none⟩), .bool fresh] 81)).cell? ⟨nb, 0, none⟩ = some (.int .i64 s) := (hB.cell (p := ⟨nb, 0, none⟩) hlt).trans hs
  cases fresh <;>
  · unfold Rec.val
    go_enter Try.func53, Try.ntmps53
    go_wp2
    go_ret
    exact ⟨hB, by simp <;> omega⟩

/-- child i of a node as 'child' hands it out -/
def childRec (low : Bool) (r : Rec) : Rec := if low = true then ⟨r.last, r.ll, r.la, r.ll, r.lc, none, false⟩ else ⟨r.last, r.count, none, 0, 0, r.node, false⟩
theorem KidRec.child {w : World} : ∀ {h : Nat} {r : Rec} {L : List (List Int)}, KidRec w h r L → KidRec w h (childRec (h == 0) r) L
  | 0, r, L, hk => by
    obtain ⟨zs, e, h1, h2, hn, hr, h3, h4, h5, h6⟩ := hk
    exact ⟨zs, e, h1, h2, rfl, hr, h3, h4, h5, by show ((r.ll : Nat) : Int) = _; rw [h3]⟩
  | h + 1, r, L, hk => by
    obtain ⟨nb, m, rs, Ls, e, rest⟩ := hk
    exact ⟨nb, m, rs, Ls, e, rest⟩

set_option maxRecDepth 100000 in
set_option maxHeartbeats 2000000 in
theorem child45 (nb m i : Nat) (low : Bool) (rs : List Rec) (w : World) (hm : m ≤ 16) (hi : i < m) (hr : w.rowIs nb 73 66 (nodeCell m low rs m)) (hc : 0 ≤ (rc rs i).count ∧ (rc rs i).count ≤ 1048576) :
    Calls Try.prog 45 #[.pointer (some ⟨nb, 0, none⟩), .int .i64 i] w fun e w' => Below w.heap.size w w' ∧ e = .returned (childRec low (rc rs i)).val := by
  have c1 := hr.cell (i := 1) (by omega)
  have c2 := hr.cell (i := 2 + i) (by omega)
  have c18 := hr.cell (i := 18 + i) (by omega)
  have c34 := hr.cell (i := 34 + i) (by omega)
  have c50 := hr.cell (i := 50 + i) (by omega)
  have e1 : nodeCell m low rs m 1 = .bool low := rfl
  have e2 : nodeCell m low rs m (2 + i) = .int .u64 (rc rs i).last := by
    unfold nodeCell; rw [if_neg (by omega), if_neg (by omega), if_pos (by omega), if_pos (by omega), show 2 + i - 2 = i by omega]
  have e18 : low = false → nodeCell m low rs m (18 + i) = .int .i32 (rc rs i).count := fun h => by
    unfold nodeCell; rw [if_neg (by omega), if_neg (by omega), if_neg (by omega), if_pos (by omega), if_pos ⟨by omega, h⟩, show 18 + i - 18 = i by omega]
  have e34 : low = true → nodeCell m low rs m (34 + i) = .slice (rc rs i).la (rc rs i).ll (rc rs i).lc := fun h => by
    unfold nodeCell; rw [if_neg (by omega), if_neg (by omega), if_neg (by omega), if_neg (by omega), if_pos (by omega), if_pos ⟨by omega, h⟩, show 34 + i - 34 = i by omega]
  have e50 : low = false → nodeCell m low rs m (50 + i) = .pointer (rc rs i).node := fun h => by
    unfold nodeCell; rw [if_neg (by omega), if_neg (by omega), if_neg (by omega), if_neg (by omega), if_neg (by omega), if_pos ⟨by omega, h⟩, show 50 + i - 50 = i by omega]
  rw [e1] at c1
  rw [e2] at c2
  have hlt := hr.lt
  generalize rc rs i = r at *
  obtain ⟨last, count, la, ll, lc, node, fresh⟩ := r
  simp only at hc c2 e18 e34 e50
  obtain ⟨W, hW⟩ : ∃ W, w.alloc (.cells #[.int .u64 0, .int .i64 0, .slice none 0 0, .pointer none, .bool false] 81) = W := ⟨_, rfl⟩
  have hB : Below w.heap.size w W := hW ▸ (Below.refl _ w).alloc (Nat.le_refl _) _
  have hres : W.rowIs w.heap.size 81 5 (fun j => rec0.cells.getD j undef) := by
    rw [← hW]
    exact World.rowIs_alloc w _ 81 _ (fun i hi => by
      have : i < 5 := hi
      match i, this with
      | 0, _ => rfl
      | 1, _ => rfl
      | 2, _ => rfl
      | 3, _ => rfl
      | 4, _ => rfl)
  have d1 : W.cell? ⟨nb, 1, none⟩ = some (.bool low) := (hB.cell (p := ⟨nb, 1, none⟩) hlt).trans c1
  have d2 : W.cell? ⟨nb, 2 + i, none⟩ = some (.int .u64 last) := (hB.cell (p := ⟨nb, 2 + i, none⟩) hlt).trans c2
  have z0 := hres.cell (i := 0) (by omega)
  have z1 := hres.cell (i := 1) (by omega)
  have z2 := hres.cell (i := 2) (by omega)
  have z3 := hres.cell (i := 3) (by omega)
  have z4 := hres.cell (i := 4) (by omega)
  have f0 := hres.frozen 0
  have f1 := hres.frozen 1
  have f2 := hres.frozen 2
  have f3 := hres.frozen 3
  have f4 := hres.frozen 4
  simp only [rec0, Rec.cells, List.getD_cons_zero, List.getD_cons_succ] at z0 z1 z2 z3 z4
  have HRES := hide hres
  have HB := hide hB
  clear hres hB c1 c2 e1 e2 hr
  cases low with
  | true =>
    rw [e34 rfl] at c34
    have d34 : W.cell? ⟨nb, 34 + i, none⟩ = some (.slice la ll lc) := (HB.out.cell (p := ⟨nb, 34 + i, none⟩) hlt).trans c34
    clear c18 c34 c50 e18 e34 e50
    go_enter Try.func45, Try.ntmps45
    go_wp2
    clear hW
    go_region
    obtain ⟨W5, hW5, hB5, v0, v1, v2, v3, v4⟩ : ∃ W5 : World, (((((W.setCell ⟨w.heap.size, 0, none⟩ (.int .u64 last)).setCell ⟨w.heap.size, 1, none⟩ (.int .i64 (ll : Nat))).setCell ⟨w.heap.size, 2, none⟩ (.slice la ll lc)).setCell ⟨w.heap.size, 3, none⟩ (.pointer none)).setCell ⟨w.heap.size, 4, none⟩ (.bool false)).drew = W5 ∧
        Hid (Below w.heap.size w W5) ∧ W5.cell? ⟨w.heap.size, 0, none⟩ = some (.int .u64 last) ∧ W5.cell? ⟨w.heap.size, 1, none⟩ = some (.int .i64 (ll : Nat)) ∧ W5.cell? ⟨w.heap.size, 2, none⟩ = some (.slice la ll lc) ∧
        W5.cell? ⟨w.heap.size, 3, none⟩ = some (.pointer none) ∧ W5.cell? ⟨w.heap.size, 4, none⟩ = some (.bool false) := by
      have hrow := (((((HRES.out.set 0 (.int .u64 last)).set 1 (.int .i64 (ll : Nat))).set 2 (.slice la ll lc)).set 3 (.pointer none)).set 4 (.bool false)).drew
      refine ⟨_, rfl, (((((HB.out.setCell (p := ⟨w.heap.size, 0, none⟩) (Nat.le_refl _) _).setCell (p := ⟨w.heap.size, 1, none⟩) (Nat.le_refl _) _).setCell (p := ⟨w.heap.size, 2, none⟩) (Nat.le_refl _) _).setCell (p := ⟨w.heap.size, 3, none⟩) (Nat.le_refl _) _).setCell (p := ⟨w.heap.size, 4, none⟩) (Nat.le_refl _) _).drew,
        hrow.cell (i := 0) (by omega), hrow.cell (i := 1) (by omega), hrow.cell (i := 2) (by omega), hrow.cell (i := 3) (by omega), hrow.cell (i := 4) (by omega)⟩
    rw [hW5]
    clear hW5 z0 z1 z2 z3 z4 f0 f1 f2 f3 f4
    go_wp2
    exact bodyPost_ret (v := .agg #[.int .u64 last, .int .i64 (ll : Nat), .slice la ll lc, .pointer none, .bool false]) (by simp [results, Try.results45, go_sem, v0, v1, v2, v3, v4]) rfl ⟨hB5.out, rfl⟩
  | false =>
    rw [e18 rfl] at c18
    rw [e50 rfl] at c50
    have d18 : W.cell? ⟨nb, 18 + i, none⟩ = some (.int .i32 count) := (HB.out.cell (p := ⟨nb, 18 + i, none⟩) hlt).trans c18
    have d50 : W.cell? ⟨nb, 50 + i, none⟩ = some (.pointer node) := (HB.out.cell (p := ⟨nb, 50 + i, none⟩) hlt).trans c50
    clear c18 c34 c50 e18 e34 e50
    go_enter Try.func45, Try.ntmps45
    go_wp2
    clear hW
    go_region
    obtain ⟨W5, hW5, hB5, v0, v1, v2, v3, v4⟩ : ∃ W5 : World, (((((W.setCell ⟨w.heap.size, 0, none⟩ (.int .u64 last)).setCell ⟨w.heap.size, 1, none⟩ (.int .i64 count)).setCell ⟨w.heap.size, 2, none⟩ (.slice none 0 0)).setCell ⟨w.heap.size, 3, none⟩ (.pointer node)).setCell ⟨w.heap.size, 4, none⟩ (.bool false)).drew = W5 ∧
        Hid (Below w.heap.size w W5) ∧ W5.cell? ⟨w.heap.size, 0, none⟩ = some (.int .u64 last) ∧ W5.cell? ⟨w.heap.size, 1, none⟩ = some (.int .i64 count) ∧ W5.cell? ⟨w.heap.size, 2, none⟩ = some (.slice none 0 0) ∧
        W5.cell? ⟨w.heap.size, 3, none⟩ = some (.pointer node) ∧ W5.cell? ⟨w.heap.size, 4, none⟩ = some (.bool false) := by
      have hrow := (((((HRES.out.set 0 (.int .u64 last)).set 1 (.int .i64 count)).set 2 (.slice none 0 0)).set 3 (.pointer node)).set 4 (.bool false)).drew
      refine ⟨_, rfl, (((((HB.out.setCell (p := ⟨w.heap.size, 0, none⟩) (Nat.le_refl _) _).setCell (p := ⟨w.heap.size, 1, none⟩) (Nat.le_refl _) _).setCell (p := ⟨w.heap.size, 2, none⟩) (Nat.le_refl _) _).setCell (p := ⟨w.heap.size, 3, none⟩) (Nat.le_refl _) _).setCell (p := ⟨w.heap.size, 4, none⟩) (Nat.le_refl _) _).drew,
        hrow.cell (i := 0) (by omega), hrow.cell (i := 1) (by omega), hrow.cell (i := 2) (by omega), hrow.cell (i := 3) (by omega), hrow.cell (i := 4) (by omega)⟩
    rw [hW5]
    clear hW5 z0 z1 z2 z3 z4 f0 f1 f2 f3 f4
    go_wp2
    exact bodyPost_ret (v := .agg #[.int .u64 last, .int .i64 count, .slice none 0 0, .pointer node, .bool false]) (by simp [results, Try.results45, go_sem, v0, v1, v2, v3, v4]) rfl ⟨hB5.out, rfl⟩

end Go.Proofs.Qxb6613757a.T
