import Derived.Test.Qxb6613757aTree
import Derived.RegionTactic
import Derived.BigRegion
import Derived.Deep.RegionHeld
/-
  newTreeNode.
-/
namespace Go.Proofs.Qxb6613757a.T
open Go.RowKit
set_option linter.unusedVariables false
set_option linter.unusedSimpArgs false

def NodeRel (w : World) (nb m : Nat) (low : Bool) (rs : List Rec) (s4 s18 : Value) (wr : World) : Prop :=
  Below w.heap.size w wr ∧ wr.rowIs w.heap.size 81 5 (fun j => rec0.cells.getD j undef) ∧ ∃ k : Nat, k ≤ m ∧ s18 = .int .i64 k ∧ s4 = .int .i64 (sumC (rs.take k)) ∧ wr.rowIs nb 73 66 (nodeCell m low rs k)

theorem zero_node (m : Nat) (low : Bool) (rs : List Rec) (i : Nat) (hi : i < 66) : ((Try.zeroCells73.setIfInBounds 0 (.int .i64 (m : Int))).setIfInBounds 1 (.bool low))[i]? = some (nodeCell m low rs 0 i) := by
  match i, hi with
  | 0, _ => rfl
  | 1, _ => rfl
  | 2, _ => rfl
  | 3, _ => rfl
  | 4, _ => rfl
  | 5, _ => rfl
  | 6, _ => rfl
  | 7, _ => rfl
  | 8, _ => rfl
  | 9, _ => rfl
  | 10, _ => rfl
  | 11, _ => rfl
  | 12, _ => rfl
  | 13, _ => rfl
  | 14, _ => rfl
  | 15, _ => rfl
  | 16, _ => rfl
  | 17, _ => rfl
  | 18, _ => rfl
  | 19, _ => rfl
  | 20, _ => rfl
  | 21, _ => rfl
  | 22, _ => rfl
  | 23, _ => rfl
  | 24, _ => rfl
  | 25, _ => rfl
  | 26, _ => rfl
  | 27, _ => rfl
  | 28, _ => rfl
  | 29, _ => rfl
  | 30, _ => rfl
  | 31, _ => rfl
  | 32, _ => rfl
  | 33, _ => rfl
  | 34, _ => rfl
  | 35, _ => rfl
  | 36, _ => rfl
  | 37, _ => rfl
  | 38, _ => rfl
  | 39, _ => rfl
  | 40, _ => rfl
  | 41, _ => rfl
  | 42, _ => rfl
  | 43, _ => rfl
  | 44, _ => rfl
  | 45, _ => rfl
  | 46, _ => rfl
  | 47, _ => rfl
  | 48, _ => rfl
  | 49, _ => rfl
  | 50, _ => rfl
  | 51, _ => rfl
  | 52, _ => rfl
  | 53, _ => rfl
  | 54, _ => rfl
  | 55, _ => rfl
  | 56, _ => rfl
  | 57, _ => rfl
  | 58, _ => rfl
  | 59, _ => rfl
  | 60, _ => rfl
  | 61, _ => rfl
  | 62, _ => rfl
  | 63, _ => rfl
  | 64, _ => rfl
  | 65, _ => rfl
  | n + 66, h => exact absurd h (by omega)

theorem node_low (m : Nat) (rs : List Rec) (k j : Nat) (hk : k < 16) (hj : j < 66) :
    (if j = 34 + k then .slice (rc rs k).la (rc rs k).ll (rc rs k).lc else if j = 2 + k then .int .u64 (rc rs k).last else nodeCell m true rs k j) = nodeCell m true rs (k + 1) j := by
  unfold nodeCell
  by_cases a : j = 34 + k
  · subst a
    rw [if_pos rfl, if_neg (by omega), if_neg (by omega), if_neg (by omega), if_neg (by omega), if_pos (by omega), if_pos ⟨by omega, rfl⟩, show 34 + k - 34 = k by omega]
  · rw [if_neg a]
    by_cases c : j = 2 + k
    · subst c
      rw [if_pos rfl, if_neg (by omega), if_neg (by omega), if_pos (by omega), if_pos (by omega), show 2 + k - 2 = k by omega]
    · rw [if_neg c]
      by_cases j0 : j = 0
      · rw [if_pos j0, if_pos j0]
      by_cases j1 : j = 1
      · rw [if_neg j0, if_neg j0, if_pos j1, if_pos j1]
      rw [if_neg j0, if_neg j0, if_neg j1, if_neg j1]
      by_cases d : j < 18
      · rw [if_pos d, if_pos d]
        by_cases e : j - 2 < k
        · rw [if_pos e, if_pos (by omega)]
        · rw [if_neg e, if_neg (by omega)]
      · rw [if_neg d, if_neg d]
        by_cases d2 : j < 34
        · rw [if_pos d2, if_pos d2]; simp
        · rw [if_neg d2, if_neg d2]
          by_cases d3 : j < 50
          · rw [if_pos d3, if_pos d3]
            by_cases e : j - 34 < k
            · rw [if_pos ⟨e, rfl⟩, if_pos ⟨by omega, rfl⟩]
            · rw [if_neg (by omega), if_neg (by omega)]
          · rw [if_neg d3, if_neg d3]; simp

theorem node_high (m : Nat) (rs : List Rec) (k j : Nat) (hk : k < 16) (hj : j < 66) :
    (if j = 18 + k then .int .i32 (rc rs k).count else if j = 50 + k then .pointer (rc rs k).node else if j = 2 + k then .int .u64 (rc rs k).last else nodeCell m false rs k j) = nodeCell m false rs (k + 1) j := by
  unfold nodeCell
  by_cases a : j = 18 + k
  · subst a
    rw [if_pos rfl, if_neg (by omega), if_neg (by omega), if_neg (by omega), if_pos (by omega), if_pos ⟨by omega, rfl⟩, show 18 + k - 18 = k by omega]
  rw [if_neg a]
  by_cases a2 : j = 50 + k
  · subst a2
    rw [if_pos rfl, if_neg (by omega), if_neg (by omega), if_neg (by omega), if_neg (by omega), if_neg (by omega), if_pos ⟨by omega, rfl⟩, show 50 + k - 50 = k by omega]
  rw [if_neg a2]
  by_cases c : j = 2 + k
  · subst c
    rw [if_pos rfl, if_neg (by omega), if_neg (by omega), if_pos (by omega), if_pos (by omega), show 2 + k - 2 = k by omega]
  rw [if_neg c]
  by_cases j0 : j = 0
  · rw [if_pos j0, if_pos j0]
  by_cases j1 : j = 1
  · rw [if_neg j0, if_neg j0, if_pos j1, if_pos j1]
  rw [if_neg j0, if_neg j0, if_neg j1, if_neg j1]
  by_cases d : j < 18
  · rw [if_pos d, if_pos d]
    by_cases e : j - 2 < k
    · rw [if_pos e, if_pos (by omega)]
    · rw [if_neg e, if_neg (by omega)]
  rw [if_neg d, if_neg d]
  by_cases d2 : j < 34
  · rw [if_pos d2, if_pos d2]
    by_cases e : j - 18 < k
    · rw [if_pos ⟨e, rfl⟩, if_pos ⟨by omega, rfl⟩]
    · rw [if_neg (by omega), if_neg (by omega)]
  rw [if_neg d2, if_neg d2]
  by_cases d3 : j < 50
  · rw [if_pos d3, if_pos d3]; simp
  rw [if_neg d3, if_neg d3]
  by_cases e : j - 50 < k
  · rw [if_pos ⟨e, rfl⟩, if_pos ⟨by omega, rfl⟩]
  · rw [if_neg (by omega), if_neg (by omega)]

set_option maxRecDepth 100000 in
set_option maxHeartbeats 2000000 in
theorem node50 (b o m cap : Nat) (rs : List Rec) (w : World) (hm : rs.length = m) (h1 : 1 ≤ m) (h16 : m ≤ 16) (hb : b < w.heap.size) (hr : RecsAt w b o rs) (hmod : Modest rs) :
    Calls Try.prog 50 #[.slice (some ⟨b, o, none⟩) m cap] w fun e w' => Below w.heap.size w w' ∧ ∃ nb, w.heap.size ≤ nb ∧ w'.rowIs nb 73 66 (nodeCell m (rc rs 0).node.isNone rs m) ∧
      e = .returned (Rec.val ⟨(rc rs (m - 1)).last, sumC rs, none, 0, 0, some ⟨nb, 0, none⟩, true⟩) := by
  obtain ⟨_, _, _, c3, _⟩ := hr 0 (by omega)
  simp only [Nat.zero_mul, Nat.add_zero] at c3
  go_enter Try.func50, Try.ntmps50
  go_wp2
  have hw1 : Hid (NodeRel w (w.heap.size + 1) m (rc rs 0).node.isNone rs (.int .i64 0) (.int .i64 0) ((w.alloc (.cells #[.int .u64 0, .int .i64 0, .slice none 0 0, .pointer none, .bool false] 81)).alloc (.cells ((Try.zeroCells73.setIfInBounds 0 (.int .i64 (m : Int))).setIfInBounds 1 (.bool (rc rs 0).node.isNone)) 73))) := by
    refine ⟨((Below.refl _ _).alloc (Nat.le_refl _) _).alloc (by simp) _, ?_, 0, Nat.zero_le _, rfl, rfl, ?_⟩
    · refine World.rowIs.alloc ?_ _
      exact World.rowIs_alloc w _ 81 _ (fun i hi => by
        have : i < 5 := hi
        match i, this with
        | 0, _ => rfl
        | 1, _ => rfl
        | 2, _ => rfl
        | 3, _ => rfl
        | 4, _ => rfl)
    · have h := World.rowIs_alloc (w.alloc (.cells #[.int .u64 0, .int .i64 0, .slice none 0 0, .pointer none, .bool false] 81)) ((Try.zeroCells73.setIfInBounds 0 (.int .i64 (m : Int))).setIfInBounds 1 (.bool (rc rs 0).node.isNone)) 73 (nodeCell m (rc rs 0).node.isNone rs 0) (fun i hi => zero_node m _ rs i hi)
      rw [World.size_alloc] at h
      exact h
  generalize hlow : (rc rs 0).node.isNone = low at *
  generalize (w.alloc (.cells #[.int .u64 0, .int .i64 0, .slice none 0 0, .pointer none, .bool false] 81)).alloc (.cells ((Try.zeroCells73.setIfInBounds 0 (.int .i64 (m : Int))).setIfInBounds 1 (.bool low)) 73) = w1 at *
  have HLOW := hide hlow
  obtain ⟨nb, hnb⟩ : ∃ nb, nb = w.heap.size + 1 := ⟨_, rfl⟩
  rw [← hnb] at hw1
  rw [← hnb]
  have hnb0 : w.heap.size < nb := by omega
  clear hlow c3 hnb
  go_loopw [4, 18] (fun s4 s18 wr => NodeRel w nb m low rs s4 s18 wr) (fun _ s18 _ => m - (intOf s18).toNat)
  case atStart => exact unhide hw1
  case round =>
    obtain ⟨hbel, hres, k, hk, rfl, rfl, hnode⟩ := hrel
    have HBEL := hide hbel
    have HRES := hide hres
    have HNODE := hide hnode
    have hnl := hnode.lt
    clear hbel hres hnode hw1
    by_cases hlt : k < m
    · obtain ⟨c0, c1, c2, c3, c4⟩ := hr.kept (unhide HBEL) hb k (by omega)
      have hbw : b < wr.heap.size := Nat.lt_of_lt_of_le hb (unhide HBEL).size
      have hcnt := hmod k (by omega)
      have hsum := sumC_le hmod k (by omega)
      generalize hrk : rc rs k = r at *
      go_wp2
      obtain ⟨W, bx, hW, hbx, hBelW, hResW, hNodeW, x0, x1, x2, x3, x4, hbxW, hnbx⟩ : ∃ (W : World) (bx : Nat), wr.alloc (.cells #[.int .u64 r.last, .int .i64 r.count, .slice r.la r.ll r.lc, .pointer r.node, .bool r.fresh] 81) = W ∧ wr.heap.size = bx ∧ Hid (Below w.heap.size w W) ∧
          Hid (W.rowIs w.heap.size 81 5 (fun j => rec0.cells.getD j undef)) ∧ Hid (W.rowIs nb 73 66 (nodeCell m low rs k)) ∧ W.cell? ⟨bx, 0, none⟩ = some (.int .u64 r.last) ∧ W.cell? ⟨bx, 1, none⟩ = some (.int .i64 r.count) ∧ W.cell? ⟨bx, 2, none⟩ = some (.slice r.la r.ll r.lc) ∧
          W.cell? ⟨bx, 3, none⟩ = some (.pointer r.node) ∧ W.cell? ⟨bx, 4, none⟩ = some (.bool r.fresh) ∧ bx < W.heap.size ∧ nb < bx := by
        refine ⟨_, _, rfl, rfl, (unhide HBEL).alloc (unhide HBEL).size _, (unhide HRES).alloc _, (unhide HNODE).alloc _, ?_, ?_, ?_, ?_, ?_, by simp, hnl⟩ <;> simp [go_sem]
      rw [hW, hbx]
      have hf2 : W.frozen? ⟨nb, 2 + k, none⟩ = false := hNodeW.out.frozen _
      have hc2 := hNodeW.out.cell (i := 2 + k) (by omega)
      obtain ⟨old2, hold2⟩ : ∃ v, nodeCell m low rs k (2 + k) = v := ⟨_, rfl⟩
      rw [hold2] at hc2
      clear hold2 hW hbx c0 c1 c2 c3 c4 HBEL HRES HNODE hnl hbw
      go_region
      obtain ⟨f2, hf2e⟩ : ∃ f2 : Nat → Value, f2 = fun j => if j = 2 + k then .int .u64 r.last else nodeCell m low rs k j := ⟨_, rfl⟩
      have HF2 := hide hf2e
      obtain ⟨W2, hW2, hBel2, hRes2, hNode2, y1, y2, y3, y4, y5, hs2⟩ : ∃ W2 : World, (W.setCell ⟨nb, 2 + k, none⟩ (.int .u64 r.last)).drew = W2 ∧ Hid (Below w.heap.size w W2) ∧
          Hid (W2.rowIs w.heap.size 81 5 (fun j => rec0.cells.getD j undef)) ∧ Hid (W2.rowIs nb 73 66 f2) ∧ W2.cell? ⟨bx, 1, none⟩ = some (.int .i64 r.count) ∧ W2.cell? ⟨bx, 2, none⟩ = some (.slice r.la r.ll r.lc) ∧
          W2.cell? ⟨bx, 3, none⟩ = some (.pointer r.node) ∧ W2.cell? ⟨bx, 4, none⟩ = some (.bool r.fresh) ∧ W2.cell? ⟨nb, 1, none⟩ = some (.bool low) ∧ nb < W2.heap.size := by
        refine ⟨_, rfl, (hBelW.out.setCell (by show _ ≤ nb; omega) _).drew, (hResW.out.setOther (by show _ ≠ nb; omega) _).drew, ?_, ?_, ?_, ?_, ?_, ?_, ?_⟩
        · rw [hf2e]; exact (hNodeW.out.set _ _).drew
        · rw [World.cell?_drew, World.cell?_setCell_far _ _ _ _ (by show nb ≠ bx; omega)]; exact x1
        · rw [World.cell?_drew, World.cell?_setCell_far _ _ _ _ (by show nb ≠ bx; omega)]; exact x2
        · rw [World.cell?_drew, World.cell?_setCell_far _ _ _ _ (by show nb ≠ bx; omega)]; exact x3
        · rw [World.cell?_drew, World.cell?_setCell_far _ _ _ _ (by show nb ≠ bx; omega)]; exact x4
        · have := (hNodeW.out.set (2 + k) (.int .u64 r.last)).drew.cell (i := 1) (by omega)
          rw [this, if_neg (by omega)]; rfl
        · exact (hNodeW.out.set (2 + k) (.int .u64 r.last)).lt
      rw [hW2]
      clear hW2 hBelW hResW hNodeW x0 x1 x2 x3 x4 hbxW hf2 hc2 hf2e
      have hfa : W2.frozen? ⟨nb, 34 + k, none⟩ = false := hNode2.out.frozen _
      have hfb : W2.frozen? ⟨nb, 50 + k, none⟩ = false := hNode2.out.frozen _
      have hfc : W2.frozen? ⟨nb, 18 + k, none⟩ = false := hNode2.out.frozen _
      have hca := hNode2.out.cell (i := 34 + k) (by omega)
      have hcb := hNode2.out.cell (i := 50 + k) (by omega)
      have hcc := hNode2.out.cell (i := 18 + k) (by omega)
      generalize f2 (34 + k) = va at hca
      generalize f2 (50 + k) = vb at hcb
      generalize f2 (18 + k) = vc at hcc
      have HR : Hid (rc rs k = r) := hrk
      have hsucc : Hid (sumC (rs.take (k + 1)) = sumC (rs.take k) + r.count) := by
        show _ = _
        rw [← hrk]; exact sumC_take_succ (by omega)
      clear hrk
      cases low with
      | true =>
        go_wp2
        go_region
        have hN : Hid (NodeRel w nb m true rs (.int .i64 (sumC (rs.take k) + r.count)) (.int .i64 (k + 1 : Nat)) ((W2.setCell ⟨nb, 34 + k, none⟩ (.slice r.la r.ll r.lc)).drew)) := by
          refine ⟨(hBel2.out.setCell (by show _ ≤ nb; omega) _).drew, (hRes2.out.setOther (by show _ ≠ nb; omega) _).drew, k + 1, by omega, rfl, by rw [hsucc.out], ?_⟩
          refine ((hNode2.out.set (34 + k) (.slice r.la r.ll r.lc)).drew).congr fun j hj => ?_
          rw [HF2.out, ← HR.out]
          exact node_low m rs k j (by omega) hj
        generalize (W2.setCell ⟨nb, 34 + k, none⟩ (.slice r.la r.ll r.lc)).drew = W3 at *
        go_wp2
        refine ⟨hN.out, ?_⟩
        simp only [intOf]; omega
      | false =>
        go_wp2
        go_region
        have hN : Hid (NodeRel w nb m false rs (.int .i64 (sumC (rs.take k) + r.count)) (.int .i64 (k + 1 : Nat)) (((W2.setCell ⟨nb, 50 + k, none⟩ (.pointer r.node)).setCell ⟨nb, 18 + k, none⟩ (.int .i32 r.count)).drew)) := by
          refine ⟨((hBel2.out.setCell (by show _ ≤ nb; omega) _).setCell (by show _ ≤ nb; omega) _).drew, ((hRes2.out.setOther (by show _ ≠ nb; omega) _).setOther (by show _ ≠ nb; omega) _).drew, k + 1, by omega, rfl, by rw [hsucc.out], ?_⟩
          refine (((hNode2.out.set (50 + k) (.pointer r.node)).set (18 + k) (.int .i32 r.count)).drew).congr fun j hj => ?_
          rw [HF2.out, ← HR.out]
          exact node_high m rs k j (by omega) hj
        generalize ((W2.setCell ⟨nb, 50 + k, none⟩ (.pointer r.node)).setCell ⟨nb, 18 + k, none⟩ (.int .i32 r.count)).drew = W3 at *
        go_wp2
        refine ⟨hN.out, ?_⟩
        simp only [intOf]; omega
    · have hkm : k = m := by omega
      subst hkm
      have q0 := HNODE.out.cell (i := 0) (by omega)
      have q1 := HNODE.out.cell (i := 2 + (k - 1)) (by omega)
      have hq1 : nodeCell k low rs k (2 + (k - 1)) = .int .u64 (rc rs (k - 1)).last := by
        unfold nodeCell
        rw [if_neg (by omega), if_neg (by omega), if_pos (by omega), if_pos (by omega), show 2 + (k - 1) - 2 = k - 1 by omega]
      have hq0 : nodeCell k low rs k 0 = .int .i64 k := rfl
      rw [hq1] at q1
      rw [hq0] at q0
      have hkl : rs.take k = rs := List.take_of_length_le (by omega)
      have hk1 : ((k : Int) - 1) = ((k - 1 : Nat) : Int) := by omega
      have z0 := HRES.out.cell (i := 0) (by omega)
      have z1 := HRES.out.cell (i := 1) (by omega)
      have z2 := HRES.out.cell (i := 2) (by omega)
      have z3 := HRES.out.cell (i := 3) (by omega)
      have z4 := HRES.out.cell (i := 4) (by omega)
      have f0 := HRES.out.frozen 0
      have f1 := HRES.out.frozen 1
      have f2 := HRES.out.frozen 2
      have f3 := HRES.out.frozen 3
      have f4 := HRES.out.frozen 4
      simp only [rec0, Rec.cells, List.getD_cons_zero, List.getD_cons_succ] at z0 z1 z2 z3 z4
      generalize hlst0 : (rc rs (k - 1)).last = lst at *
      have hlst := hide hlst0
      clear hlst0
      generalize hk2 : k - 1 = k' at *
      have hk2' := hide hk2
      clear hk2
      go_wp2
      go_region
      obtain ⟨W5, hW5, hB5, hN5, v0, v1, v2, v3, v4⟩ : ∃ W5 : World, (((((wr.setCell ⟨w.heap.size, 0, none⟩ (.int .u64 lst)).setCell ⟨w.heap.size, 1, none⟩ (.int .i64 (sumC rs))).setCell ⟨w.heap.size, 2, none⟩ (.slice none 0 0)).setCell ⟨w.heap.size, 3, none⟩ (.pointer (some ⟨nb, 0, none⟩))).setCell ⟨w.heap.size, 4, none⟩ (.bool true)).drew = W5 ∧
          Hid (Below w.heap.size w W5) ∧ Hid (W5.rowIs nb 73 66 (nodeCell k low rs k)) ∧ W5.cell? ⟨w.heap.size, 0, none⟩ = some (.int .u64 lst) ∧ W5.cell? ⟨w.heap.size, 1, none⟩ = some (.int .i64 (sumC rs)) ∧ W5.cell? ⟨w.heap.size, 2, none⟩ = some (.slice none 0 0) ∧
          W5.cell? ⟨w.heap.size, 3, none⟩ = some (.pointer (some ⟨nb, 0, none⟩)) ∧ W5.cell? ⟨w.heap.size, 4, none⟩ = some (.bool true) := by
        have hrow := (((((HRES.out.set 0 (.int .u64 lst)).set 1 (.int .i64 (sumC rs))).set 2 (.slice none 0 0)).set 3 (.pointer (some ⟨nb, 0, none⟩))).set 4 (.bool true)).drew
        refine ⟨_, rfl, (((((HBEL.out.setCell (by show _ ≤ w.heap.size; omega) _).setCell (by show _ ≤ w.heap.size; omega) _).setCell (by show _ ≤ w.heap.size; omega) _).setCell (by show _ ≤ w.heap.size; omega) _).setCell (by show _ ≤ w.heap.size; omega) _).drew,
          (((((HNODE.out.setOther (by show nb ≠ w.heap.size; omega) _).setOther (by show nb ≠ w.heap.size; omega) _).setOther (by show nb ≠ w.heap.size; omega) _).setOther (by show nb ≠ w.heap.size; omega) _).setOther (by show nb ≠ w.heap.size; omega) _).drew,
          hrow.cell (i := 0) (by omega), hrow.cell (i := 1) (by omega), hrow.cell (i := 2) (by omega), hrow.cell (i := 3) (by omega), hrow.cell (i := 4) (by omega)⟩
      rw [hW5]
      clear hW5 z0 z1 z2 z3 z4 f0 f1 f2 f3 f4 q0 q1
      go_wp2
      refine bodyPost_ret (v := .agg #[.int .u64 lst, .int .i64 (sumC rs), .slice none 0 0, .pointer (some ⟨nb, 0, none⟩), .bool true]) (by simp [results, Try.results50, go_sem, v0, v1, v2, v3, v4]) rfl ⟨hB5.out, nb, by omega, ?_, ?_⟩
      · rw [HLOW.out]; exact hN5.out
      · rw [hk2'.out]; rw [hlst.out]; rfl

end Go.Proofs.Qxb6613757a.T
