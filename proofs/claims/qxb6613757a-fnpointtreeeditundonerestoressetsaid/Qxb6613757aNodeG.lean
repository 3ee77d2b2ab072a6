import Derived.Test.Qxb6613757aNode
/-
  newTreeNode, whatever the counts are.
-/
namespace Go.Proofs.Qxb6613757a.T
open Go.RowKit
set_option linter.unusedVariables false
set_option linter.unusedSimpArgs false

/-- the cells of a node in the making, the counts laid being cn -/
def nodeG (m : Nat) (low : Bool) (rs : List Rec) (cn : Nat → Int) (k j : Nat) : Value :=
  if 18 ≤ j ∧ j < 34 then .int .i32 (if j - 18 < k ∧ low = false then cn (j - 18) else 0) else nodeCell m low rs k j

def NodeRelG (w : World) (nb m : Nat) (low : Bool) (rs : List Rec) (s4 s18 : Value) (wr : World) : Prop :=
  Below w.heap.size w wr ∧ wr.rowIs w.heap.size 81 5 (fun j => rec0.cells.getD j undef) ∧ ∃ (k : Nat) (q : Int) (cn : Nat → Int), k ≤ m ∧ s18 = .int .i64 k ∧ s4 = .int .i64 q ∧ (Modest rs → q = sumC (rs.take k) ∧ ∀ i, i < k → cn i = (rc rs i).count) ∧ wr.rowIs nb 73 66 (nodeG m low rs cn k)

theorem nodeCell_mid {m : Nat} {low : Bool} {rs : List Rec} {k j : Nat} (h1 : 18 ≤ j) (h2 : j < 34) : nodeCell m low rs k j = .int .i32 (if j - 18 < k ∧ low = false then (rc rs (j - 18)).count else 0) := by
  unfold nodeCell
  rw [if_neg (by omega), if_neg (by omega), if_neg (by omega), if_pos h2]

theorem nodeG_zero (m : Nat) (low : Bool) (rs : List Rec) (cn : Nat → Int) (j : Nat) : nodeG m low rs cn 0 j = nodeCell m low rs 0 j := by
  unfold nodeG
  split
  · rename_i h
    rw [nodeCell_mid h.1 h.2]; simp
  · rfl

theorem nodeG_low (m : Nat) (rs : List Rec) (cn : Nat → Int) (k j : Nat) (hk : k < 16) (hj : j < 66) :
    (if j = 34 + k then .slice (rc rs k).la (rc rs k).ll (rc rs k).lc else if j = 2 + k then .int .u64 (rc rs k).last else nodeG m true rs cn k j) = nodeG m true rs cn (k + 1) j := by
  have h := node_low m rs k j hk hj
  unfold nodeG
  by_cases h1 : 18 ≤ j ∧ j < 34
  · rw [if_pos h1, if_pos h1, if_neg (by omega), if_neg (by omega)]; simp
  · rw [if_neg h1, if_neg h1]; exact h

def upd (cn : Nat → Int) (k : Nat) (x : Int) (i : Nat) : Int := if i = k then x else cn i

theorem nodeG_high (m : Nat) (rs : List Rec) (cn : Nat → Int) (x : Int) (k j : Nat) (hk : k < 16) (hj : j < 66) :
    (if j = 18 + k then .int .i32 x else if j = 50 + k then .pointer (rc rs k).node else if j = 2 + k then .int .u64 (rc rs k).last else nodeG m false rs cn k j) = nodeG m false rs (upd cn k x) (k + 1) j := by
  have h := node_high m rs k j hk hj
  unfold nodeG
  by_cases h1 : 18 ≤ j ∧ j < 34
  · rw [if_pos h1, if_pos h1]
    by_cases h2 : j = 18 + k
    · subst h2
      rw [if_pos rfl, if_pos ⟨by omega, rfl⟩]
      simp [upd, show 18 + k - 18 = k by omega]
    · rw [if_neg h2, if_neg (by omega), if_neg (by omega)]
      by_cases h3 : j - 18 < k
      · rw [if_pos ⟨h3, rfl⟩, if_pos ⟨by omega, rfl⟩]; simp [upd]; omega
      · rw [if_neg (by omega), if_neg (by omega)]
  · rw [if_neg h1, if_neg h1, if_neg (by omega)]
    rw [if_neg (by omega)] at h
    exact h

theorem nodeG_eq {m : Nat} {low : Bool} {rs : List Rec} {cn : Nat → Int} {k : Nat} (h : ∀ i, i < k → cn i = (rc rs i).count) (j : Nat) : nodeG m low rs cn k j = nodeCell m low rs k j := by
  unfold nodeG
  split
  · rename_i h1
    rw [nodeCell_mid h1.1 h1.2]
    by_cases h2 : j - 18 < k ∧ low = false
    · rw [if_pos h2, if_pos h2, h _ h2.1]
    · rw [if_neg h2, if_neg h2]
  · rfl

set_option maxRecDepth 100000 in
set_option maxHeartbeats 2000000 in
theorem node50g (b o m cap : Nat) (rs : List Rec) (w : World) (hm : rs.length = m) (h1 : 1 ≤ m) (h16 : m ≤ 16) (hb : b < w.heap.size) (hr : RecsAt w b o rs) :
    Calls Try.prog 50 #[.slice (some ⟨b, o, none⟩) m cap] w fun e w' => Below w.heap.size w w' ∧ ∃ (nb : Nat) (q : Int), w.heap.size ≤ nb ∧ nb < w'.heap.size ∧ e = .returned (Rec.val ⟨(rc rs (m - 1)).last, q, none, 0, 0, some ⟨nb, 0, none⟩, true⟩) ∧
      (Modest rs → q = sumC rs ∧ w'.rowIs nb 73 66 (nodeCell m (rc rs 0).node.isNone rs m)) := by
  obtain ⟨_, _, _, c3, _⟩ := hr 0 (by omega)
  simp only [Nat.zero_mul, Nat.add_zero] at c3
  go_enter Try.func50, Try.ntmps50
  go_wp2
  have hw1 : Hid (NodeRelG w (w.heap.size + 1) m (rc rs 0).node.isNone rs (.int .i64 0) (.int .i64 0) ((w.alloc (.cells #[.int .u64 0, .int .i64 0, .slice none 0 0, .pointer none, .bool false] 81)).alloc (.cells ((Try.zeroCells73.setIfInBounds 0 (.int .i64 (m : Int))).setIfInBounds 1 (.bool (rc rs 0).node.isNone)) 73))) := by
    refine ⟨((Below.refl _ _).alloc (Nat.le_refl _) _).alloc (by simp) _, ?_, 0, 0, fun _ => 0, Nat.zero_le _, rfl, rfl, fun _ => ⟨rfl, fun i h => by omega⟩, ?_⟩
    · refine World.rowIs.alloc ?_ _
      exact World.rowIs_alloc w _ 81 _ (fun i hi => by
        have : i < 5 := hi
        match i, this with
        | 0, _ => rfl
        | 1, _ => rfl
        | 2, _ => rfl
        | 3, _ => rfl
        | 4, _ => rfl)
    · have h := World.rowIs_alloc (w.alloc (.cells #[.int .u64 0, .int .i64 0, .slice none 0 0, .pointer none, .bool false] 81)) ((Try.zeroCells73.setIfInBounds 0 (.int .i64 (m : Int))).setIfInBounds 1 (.bool (rc rs 0).node.isNone)) 73 (nodeCell m (rc rs 0).node.isNone rs 0) (fun i hi => zero_node m _ rs i hi)
      rw [World.size_alloc] at h
      exact h.congr fun j _ => (nodeG_zero _ _ _ _ _).symm
  generalize hlow : (rc rs 0).node.isNone = low at *
  generalize (w.alloc (.cells #[.int .u64 0, .int .i64 0, .slice none 0 0, .pointer none, .bool false] 81)).alloc (.cells ((Try.zeroCells73.setIfInBounds 0 (.int .i64 (m : Int))).setIfInBounds 1 (.bool low)) 73) = w1 at *
  have HLOW := hide hlow
  obtain ⟨nb, hnb⟩ : ∃ nb, nb = w.heap.size + 1 := ⟨_, rfl⟩
  rw [← hnb] at hw1
  rw [← hnb]
  have hnb0 : w.heap.size < nb := by omega
  clear hlow c3 hnb
  go_loopw [4, 18] (fun s4 s18 wr => NodeRelG w nb m low rs s4 s18 wr) (fun _ s18 _ => m - (intOf s18).toNat)
  case atStart => exact unhide hw1
  case round =>
    obtain ⟨hbel, hres, k, q, cn, hk, rfl, rfl, hmo, hnode⟩ := hrel
    have HMO := hide hmo
    clear hmo
    have HBEL := hide hbel
    have HRES := hide hres
    have HNODE := hide hnode
    have hnl := hnode.lt
    clear hbel hres hnode hw1
    by_cases hlt : k < m
    · obtain ⟨c0, c1, c2, c3, c4⟩ := hr.kept (unhide HBEL) hb k (by omega)
      have hbw : b < wr.heap.size := Nat.lt_of_lt_of_le hb (unhide HBEL).size
      generalize hrk : rc rs k = r at *
      go_wp2
      obtain ⟨W, bx, hW, hbx, hBelW, hResW, hNodeW, x0, x1, x2, x3, x4, hbxW, hnbx⟩ : ∃ (W : World) (bx : Nat), wr.alloc (.cells #[.int .u64 r.last, .int .i64 r.count, .slice r.la r.ll r.lc, .pointer r.node, .bool r.fresh] 81) = W ∧ wr.heap.size = bx ∧ Hid (Below w.heap.size w W) ∧
          Hid (W.rowIs w.heap.size 81 5 (fun j => rec0.cells.getD j undef)) ∧ Hid (W.rowIs nb 73 66 (nodeG m low rs cn k)) ∧ W.cell? ⟨bx, 0, none⟩ = some (.int .u64 r.last) ∧ W.cell? ⟨bx, 1, none⟩ = some (.int .i64 r.count) ∧ W.cell? ⟨bx, 2, none⟩ = some (.slice r.la r.ll r.lc) ∧
          W.cell? ⟨bx, 3, none⟩ = some (.pointer r.node) ∧ W.cell? ⟨bx, 4, none⟩ = some (.bool r.fresh) ∧ bx < W.heap.size ∧ nb < bx := by
        refine ⟨_, _, rfl, rfl, (unhide HBEL).alloc (unhide HBEL).size _, (unhide HRES).alloc _, (unhide HNODE).alloc _, ?_, ?_, ?_, ?_, ?_, by simp, hnl⟩ <;> simp [go_sem]
      rw [hW, hbx]
      have hf2 : W.frozen? ⟨nb, 2 + k, none⟩ = false := hNodeW.out.frozen _
      have hc2 := hNodeW.out.cell (i := 2 + k) (by omega)
      obtain ⟨old2, hold2⟩ : ∃ v, nodeG m low rs cn k (2 + k) = v := ⟨_, rfl⟩
      rw [hold2] at hc2
      clear hold2 hW hbx c0 c1 c2 c3 c4 HBEL HRES HNODE hnl hbw
      go_region
      obtain ⟨f2, hf2e⟩ : ∃ f2 : Nat → Value, f2 = fun j => if j = 2 + k then .int .u64 r.last else nodeG m low rs cn k j := ⟨_, rfl⟩
      have HF2 := hide hf2e
      obtain ⟨W2, hW2, hBel2, hRes2, hNode2, y1, y2, y3, y4, y5, hs2⟩ : ∃ W2 : World, (W.setCell ⟨nb, 2 + k, none⟩ (.int .u64 r.last)).drew = W2 ∧ Hid (Below w.heap.size w W2) ∧
          Hid (W2.rowIs w.heap.size 81 5 (fun j => rec0.cells.getD j undef)) ∧ Hid (W2.rowIs nb 73 66 f2) ∧ W2.cell? ⟨bx, 1, none⟩ = some (.int .i64 r.count) ∧ W2.cell? ⟨bx, 2, none⟩ = some (.slice r.la r.ll r.lc) ∧
          W2.cell? ⟨bx, 3, none⟩ = some (.pointer r.node) ∧ W2.cell? ⟨bx, 4, none⟩ = some (.bool r.fresh) ∧ W2.cell? ⟨nb, 1, none⟩ = some (.bool low) ∧ nb < W2.heap.size := by
        refine ⟨_, rfl, (hBelW.out.setCell (by show _ ≤ nb; omega) _).drew, (hResW.out.setOther (by show _ ≠ nb; omega) _).drew, ?_, ?_, ?_, ?_, ?_, ?_, ?_⟩
        · rw [hf2e]; exact (hNodeW.out.set _ _).drew
        · rw [World.cell?_drew, World.cell?_setCell_far _ _ _ _ (by show nb ≠ bx; omega)]; exact x1
        · rw [World.cell?_drew, World.cell?_setCell_far _ _ _ _ (by show nb ≠ bx; omega)]; exact x2
        · rw [World.cell?_drew, World.cell?_setCell_far _ _ _ _ (by show nb ≠ bx; omega)]; exact x3
        · rw [World.cell?_drew, World.cell?_setCell_far _ _ _ _ (by show nb ≠ bx; omega)]; exact x4
        · have := (hNodeW.out.set (2 + k) (.int .u64 r.last)).drew.cell (i := 1) (by omega)
          rw [this, if_neg (by omega)]; rfl
        · exact (hNodeW.out.set (2 + k) (.int .u64 r.last)).lt
      rw [hW2]
      clear hW2 hBelW hResW hNodeW x0 x1 x2 x3 x4 hbxW hf2 hc2 hf2e
      have hfa : W2.frozen? ⟨nb, 34 + k, none⟩ = false := hNode2.out.frozen _
      have hfb : W2.frozen? ⟨nb, 50 + k, none⟩ = false := hNode2.out.frozen _
      have hfc : W2.frozen? ⟨nb, 18 + k, none⟩ = false := hNode2.out.frozen _
      have hca := hNode2.out.cell (i := 34 + k) (by omega)
      have hcb := hNode2.out.cell (i := 50 + k) (by omega)
      have hcc := hNode2.out.cell (i := 18 + k) (by omega)
      generalize f2 (34 + k) = va at hca
      generalize f2 (50 + k) = vb at hcb
      generalize f2 (18 + k) = vc at hcc
      have HR : Hid (rc rs k = r) := hrk
      clear hrk
      have HM2 : Hid (Modest rs → wrap64 (q + r.count) = sumC (rs.take (k + 1)) ∧ wrap32 r.count = r.count) := fun hmod => by
        have hcnt := hmod k (by omega)
        have hsum := sumC_le hmod k (by omega)
        rw [HR.out] at hcnt
        rw [sumC_take_succ (by omega), HR.out, ← (HMO.out hmod).1]
        rw [← (HMO.out hmod).1] at hsum
        constructor
        · rw [← IntWalk.i64_left]; exact IntWalk.i64_in _ (by omega)
        · unfold wrap32; omega
      cases low with
      | true =>
        go_wp2
        go_region
        have hN : Hid (NodeRelG w nb m true rs (.int .i64 (wrap64 (q + r.count))) (.int .i64 (k + 1 : Nat)) ((W2.setCell ⟨nb, 34 + k, none⟩ (.slice r.la r.ll r.lc)).drew)) := by
          refine ⟨(hBel2.out.setCell (by show _ ≤ nb; omega) _).drew, (hRes2.out.setOther (by show _ ≠ nb; omega) _).drew, k + 1, _, upd cn k r.count, by omega, rfl, rfl, fun hmod => ⟨(HM2.out hmod).1, fun i hi => ?_⟩, ?_⟩
          · unfold upd
            by_cases e : i = k
            · rw [if_pos e, e, HR.out]
            · rw [if_neg e]; exact (HMO.out hmod).2 i (by omega)
          · refine ((hNode2.out.set (34 + k) (.slice r.la r.ll r.lc)).drew).congr fun j hj => ?_
            rw [HF2.out, ← HR.out, nodeG_low m rs cn k j (by omega) hj]
            unfold nodeG; simp
        generalize (W2.setCell ⟨nb, 34 + k, none⟩ (.slice r.la r.ll r.lc)).drew = W3 at *
        generalize wrap64 (q + r.count) = q' at *
        go_wp2
        refine ⟨hN.out, ?_⟩
        simp only [intOf]; omega
      | false =>
        go_wp2
        go_region
        have hN : Hid (NodeRelG w nb m false rs (.int .i64 (wrap64 (q + r.count))) (.int .i64 (k + 1 : Nat)) (((W2.setCell ⟨nb, 50 + k, none⟩ (.pointer r.node)).setCell ⟨nb, 18 + k, none⟩ (.int .i32 (wrap32 r.count))).drew)) := by
          refine ⟨((hBel2.out.setCell (by show _ ≤ nb; omega) _).setCell (by show _ ≤ nb; omega) _).drew, ((hRes2.out.setOther (by show _ ≠ nb; omega) _).setOther (by show _ ≠ nb; omega) _).drew, k + 1, _, upd cn k (wrap32 r.count), by omega, rfl, rfl, fun hmod => ⟨(HM2.out hmod).1, fun i hi => ?_⟩, ?_⟩
          · unfold upd
            by_cases e : i = k
            · rw [if_pos e, e, HR.out]; exact (HM2.out hmod).2
            · rw [if_neg e]; exact (HMO.out hmod).2 i (by omega)
          · refine (((hNode2.out.set (50 + k) (.pointer r.node)).set (18 + k) (.int .i32 (wrap32 r.count))).drew).congr fun j hj => ?_
            rw [HF2.out, ← nodeG_high m rs cn (wrap32 r.count) k j (by omega) hj, HR.out]
        generalize ((W2.setCell ⟨nb, 50 + k, none⟩ (.pointer r.node)).setCell ⟨nb, 18 + k, none⟩ (.int .i32 (wrap32 r.count))).drew = W3 at *
        generalize wrap64 (q + r.count) = q' at *
        go_wp2
        refine ⟨hN.out, ?_⟩
        simp only [intOf]; omega
    · have hkm : k = m := by omega
      subst hkm
      have q0 := HNODE.out.cell (i := 0) (by omega)
      have q1 := HNODE.out.cell (i := 2 + (k - 1)) (by omega)
      have hq1 : nodeG k low rs cn k (2 + (k - 1)) = .int .u64 (rc rs (k - 1)).last := by
        unfold nodeG nodeCell
        rw [if_neg (by omega), if_neg (by omega), if_neg (by omega), if_pos (by omega), if_pos (by omega), show 2 + (k - 1) - 2 = k - 1 by omega]
      have hq0 : nodeG k low rs cn k 0 = .int .i64 k := rfl
      rw [hq1] at q1
      rw [hq0] at q0
      have hkl : rs.take k = rs := List.take_of_length_le (by omega)
      have hk1 : ((k : Int) - 1) = ((k - 1 : Nat) : Int) := by omega
      have z0 := HRES.out.cell (i := 0) (by omega)
      have z1 := HRES.out.cell (i := 1) (by omega)
      have z2 := HRES.out.cell (i := 2) (by omega)
      have z3 := HRES.out.cell (i := 3) (by omega)
      have z4 := HRES.out.cell (i := 4) (by omega)
      have f0 := HRES.out.frozen 0
      have f1 := HRES.out.frozen 1
      have f2 := HRES.out.frozen 2
      have f3 := HRES.out.frozen 3
      have f4 := HRES.out.frozen 4
      simp only [rec0, Rec.cells, List.getD_cons_zero, List.getD_cons_succ] at z0 z1 z2 z3 z4
      generalize hlst0 : (rc rs (k - 1)).last = lst at *
      have hlst := hide hlst0
      clear hlst0
      generalize hk2 : k - 1 = k' at *
      have hk2' := hide hk2
      clear hk2
      go_wp2
      go_region
      obtain ⟨W5, hW5, hB5, hN5, v0, v1, v2, v3, v4⟩ : ∃ W5 : World, (((((wr.setCell ⟨w.heap.size, 0, none⟩ (.int .u64 lst)).setCell ⟨w.heap.size, 1, none⟩ (.int .i64 q)).setCell ⟨w.heap.size, 2, none⟩ (.slice none 0 0)).setCell ⟨w.heap.size, 3, none⟩ (.pointer (some ⟨nb, 0, none⟩))).setCell ⟨w.heap.size, 4, none⟩ (.bool true)).drew = W5 ∧
          Hid (Below w.heap.size w W5) ∧ Hid (W5.rowIs nb 73 66 (nodeG k low rs cn k)) ∧ W5.cell? ⟨w.heap.size, 0, none⟩ = some (.int .u64 lst) ∧ W5.cell? ⟨w.heap.size, 1, none⟩ = some (.int .i64 q) ∧ W5.cell? ⟨w.heap.size, 2, none⟩ = some (.slice none 0 0) ∧
          W5.cell? ⟨w.heap.size, 3, none⟩ = some (.pointer (some ⟨nb, 0, none⟩)) ∧ W5.cell? ⟨w.heap.size, 4, none⟩ = some (.bool true) := by
        have hrow := (((((HRES.out.set 0 (.int .u64 lst)).set 1 (.int .i64 q)).set 2 (.slice none 0 0)).set 3 (.pointer (some ⟨nb, 0, none⟩))).set 4 (.bool true)).drew
        refine ⟨_, rfl, (((((HBEL.out.setCell (by show _ ≤ w.heap.size; omega) _).setCell (by show _ ≤ w.heap.size; omega) _).setCell (by show _ ≤ w.heap.size; omega) _).setCell (by show _ ≤ w.heap.size; omega) _).setCell (by show _ ≤ w.heap.size; omega) _).drew,
          (((((HNODE.out.setOther (by show nb ≠ w.heap.size; omega) _).setOther (by show nb ≠ w.heap.size; omega) _).setOther (by show nb ≠ w.heap.size; omega) _).setOther (by show nb ≠ w.heap.size; omega) _).setOther (by show nb ≠ w.heap.size; omega) _).drew,
          hrow.cell (i := 0) (by omega), hrow.cell (i := 1) (by omega), hrow.cell (i := 2) (by omega), hrow.cell (i := 3) (by omega), hrow.cell (i := 4) (by omega)⟩
      rw [hW5]
      clear hW5 z0 z1 z2 z3 z4 f0 f1 f2 f3 f4 q0 q1
      go_wp2
      refine bodyPost_ret (v := .agg #[.int .u64 lst, .int .i64 q, .slice none 0 0, .pointer (some ⟨nb, 0, none⟩), .bool true]) (by simp [results, Try.results50, go_sem, v0, v1, v2, v3, v4]) rfl ⟨hB5.out, nb, q, by omega, hN5.out.lt, ?_, fun hmod => ⟨?_, ?_⟩⟩
      · rw [hk2'.out]; rw [hlst.out]; rfl
      · rw [(HMO.out hmod).1, List.take_of_length_le (by omega)]
      · rw [HLOW.out]; exact hN5.out.congr fun j _ => nodeG_eq (HMO.out hmod).2 j

end Go.Proofs.Qxb6613757a.T
