import Derived.Test.Qxb6613757aRoot
/-
  newPointTree.
-/
namespace Go.Proofs.Qxb6613757a.T
open Go.RowKit Go.Shelf
set_option linter.unusedVariables false
set_option linter.unusedSimpArgs false

set_option maxRecDepth 100000 in
set_option maxHeartbeats 2000000 in
theorem root36_0 (a : Option Addr) (cap : Nat) (w : World) : Calls Try.prog 36 #[.slice a 0 cap] w fun e w' => w' = w ∧ e = .returned (.pointer none) := by
  go_enter Try.func36, Try.ntmps36
  go_wp2
  go_ret
  exact ⟨rfl, rfl⟩

/-- leaves from the pieces -/
theorem kids_leaves {w : World} {k : Nat} {ns : List Rec} {zs : List Int} (hl : ns.length = k) (hk : ∀ j, j < k → KidRec w 0 (rc ns j) [piece zs k j]) : Kids w 0 ns ((List.range k).map fun j => [piece zs k j]) :=
  ⟨by simp [hl], fun i hi => by
    have : lv ((List.range k).map fun j => [piece zs k j]) i = [piece zs k i] := by simp [lv, show i < k by omega]
    rw [this]; exact hk i (by omega)⟩
theorem leaves_flat {zs : List Int} {k : Nat} (hk : 0 < k) : ((List.range k).map fun j => [piece zs k j]).flatten.flatten = zs := by
  have e : ((List.range k).map fun j => [piece zs k j]).flatten = (List.range k).map (piece zs k) := by
    generalize List.range k = l
    induction l with
    | nil => rfl
    | cons x xs ih => simp only [List.map_cons, List.flatten_cons, ih, List.singleton_append]
  rw [e, pieces_flat zs hk k (Nat.le_refl _), cutAt_end _ _ hk, List.take_of_length_le (Nat.le_refl _)]

theorem new_len {n : Nat} {zs : List Int} (hz : zs.length = n) (hn : n ≤ 1048576) : (ents ((List.range (npc n 64)).map fun j => [piece zs (npc n 64) j])).length ≤ 1048576 := by
  unfold ents
  rcases Nat.eq_zero_or_pos (npc n 64) with h | h
  · rw [h]; simp
  · rw [leaves_flat h, hz]; exact hn

/-- rooted, of whatever level a function has built -/
theorem root_any (v : Value) (h : Nat) (rs : List Rec) (Ls : List (List (List Int))) (w : World) (hc : rs.length ≤ 1048576) (hrow : w.ownsRow 0 81 5 v rs.length (recCells rs)) (hkids : Kids w h rs Ls) (hM : (ents Ls).length ≤ 1048576) :
    Calls Try.prog 36 #[v] w fun e w' => w.grownBy w' v.ownBlock ∧ ∃ root, e = .returned (.pointer root) ∧ TreeIs w' root Ls.flatten := by
  by_cases h0 : rs.length = 0
  · obtain ⟨a, cap, rfl, _⟩ := ownsRow_shape hrow
    rw [h0]
    refine (root36_0 a cap w).mono ?_
    rintro e w' ⟨rfl, rfl⟩
    refine ⟨World.grownBy.refl _ _, none, rfl, .inl ⟨rfl, ?_⟩⟩
    have : Ls.length = 0 := by rw [← hkids.1]; exact h0
    rw [List.eq_nil_of_length_eq_zero this]; rfl
  · rcases hrow.2 with ⟨_, e⟩ | ⟨g, cap, cur, rfl, _⟩
    · exact absurd e h0
    · exact root36 g rs.length cap h rs Ls w rfl (by omega) hc hrow hkids hM

set_option maxRecDepth 100000 in
set_option maxHeartbeats 2000000 in
theorem new29 (ea : Option Addr) (n cap : Nat) (zs : List Int) (w : World) (hz : zs.length = n) (hn : n ≤ 1048576) (hcap : n ≤ cap) (hr : Row w ea zs) :
    Calls Try.prog 29 #[.slice ea n cap] w fun e w' => Below w.heap.size w w' ∧ ∃ (root : Option Addr) (L : List (List Int)), e = .returned (.agg #[.pointer root, .int .i64 n]) ∧ TreeIs w' root L ∧ L.flatten = zs := by
  obtain ⟨i0, hi0, hz0, hsz0, hby0⟩ := info_parts info81
  have hdiv : ((n : Int) + 64 - 1) / 64 = ((npc n 64 : Nat) : Int) := by unfold npc; omega
  have hkb : npc n 64 ≤ n := npc_le (by omega)
  obtain ⟨k, hKK⟩ : ∃ k, npc n 64 = k := ⟨_, rfl⟩
  rw [hKK] at hdiv hkb
  have HK := hide hKK
  clear hKK
  go_enter Try.func29, Try.ntmps29
  go_wp2_with (first
    | (at_make; refine wpList_make_own _ rfl _ _ 63 rfl 0 81 i0 _ 5 Try.underlying63 hi0 hz0 hsz0 .i64 .i64 _ k rfl rfl (by first | exact hdiv | omega) (by rw [hby0]; omega) (by unfold maxLen; omega) (Nat.zero_le _) ?_; intro w1 hown1 hgr1
       have hbx : Hid (w1.rowIs w.heap.size 44 2 (fun j => if j = 0 then .pointer none else .int .i64 0)) := World.rowIs.of_block (w := w.alloc (.cells #[.pointer none, .int .i64 0] 44)) (World.rowIs_alloc w #[.pointer none, .int .i64 0] 44 _ (fun i hi => by
         have : i < 2 := hi
         match i, this with
         | 0, _ => rfl
         | 1, _ => rfl)) (hgr1.block _ (by simp) (by simp))
       have hB1 : Hid (Below w.heap.size w w1) := ((Below.refl _ w).alloc (Nat.le_refl _) _).grown hgr1 (by simp) (fun k e => by cases e)
       have hs1 : Hid (w.heap.size + 1 ≤ w1.heap.size) := by have := hgr1.size; simp at this; exact this
       have hR1 : Hid (Row w1 ea zs) := hr.k2 ((K2.alloc w _).trans (K2.grown hgr1 (fun l hl => by cases hl)))
       have hown1' : Hid (w1.ownsRow 0 81 5 (.slice (some ⟨w.heap.size + 1, 0, none⟩) 0 k) ([] : List Rec).length (recCells [])) := by
         have h := hown1
         try rw [World.size_alloc] at h
         exact h
       clear hgr1 hown1)
    | (go_at_call 35; refine (callsIn_wide.1 (leaves35 (.slice (some ⟨w.heap.size + 1, 0, none⟩) 0 k) [] ea n cap zs true w1 hz hn hcap hR1.out hown1'.out (by simp))).mono ?_; rintro e w2 ⟨hg2, v, ns, rfl, hrow2, hob2, hns, hk2⟩
       have HROW2 := hide hrow2
       have HOB2 := hide hob2
       have HNS := hide hns
       have HK2 := hide hk2
       have HG2 := hide hg2
       clear hrow2 hob2 hns hk2 hg2))
  refine (root_any v 0 ns ((List.range (npc n 64)).map fun j => [piece zs (npc n 64) j]) w2 (by rw [HNS.out]; have := npc_le (n := n) (most := 64) (by omega); omega) (by simpa using HROW2.out) (kids_leaves HNS.out (fun j hj => (HK2.out j hj).1)) (new_len hz hn)).mono ?_
  rintro e w3 ⟨hg3, root, rfl, htree⟩
  have hbx3 := (hbx.out.of_block (HG2.out.block _ hbx.out.lt (by simp [Value.ownBlock]))).of_block (hg3.block _ (Nat.lt_of_lt_of_le hbx.out.lt HG2.out.size) (by
    rcases HOB2.out with h | ⟨g, h, hgg⟩
    · rw [h]; simp [Value.ownBlock]
    · rw [h]; have := hs1.out; intro e; cases e; omega))
  have d0 := hbx3.cell (i := 0) (by omega)
  have d1 := hbx3.cell (i := 1) (by omega)
  have f0 := hbx3.frozen 0
  have f1 := hbx3.frozen 1
  have HBX3 := hide hbx3
  have HTREE := hide htree
  have HB3 : Hid (Below w.heap.size w w3) := (hB1.out.grown HG2.out hB1.out.size (fun l e => by cases e; exact Nat.le_succ _)).grown hg3 (Nat.le_trans hB1.out.size HG2.out.size) (fun l e => by
    rcases HOB2.out with h | ⟨g, h, hgg⟩
    · rw [h] at e; cases e; exact Nat.le_succ _
    · rw [h] at e; cases e; have := hs1.out; omega)
  clear hbx3 htree hg3
  go_wp2
  have hrow4 := (HBX3.out.set 0 (.pointer root)).set 1 (.int .i64 (n : Int))
  have q0 := hrow4.cell (i := 0) (by omega)
  have q1 := hrow4.cell (i := 1) (by omega)
  have k4 : K2 w3 ((w3.setCell ⟨w.heap.size, 0, none⟩ (.pointer root)).setCell ⟨w.heap.size, 1, none⟩ (.int .i64 (n : Int))) := by
    obtain ⟨cu, hcu, _⟩ := HBX3.out
    refine (K2.setCell (p := ⟨w.heap.size, 0, none⟩) hcu ⟨by decide, by decide⟩ (.pointer root)).trans ?_
    obtain ⟨cu2, hcu2, _⟩ := HBX3.out.set 0 (.pointer root)
    exact K2.setCell (p := ⟨w.heap.size, 1, none⟩) hcu2 ⟨by decide, by decide⟩ _
  have B4 := (HB3.out.setCell (p := ⟨w.heap.size, 0, none⟩) (Nat.le_refl _) (.pointer root)).setCell (p := ⟨w.heap.size, 1, none⟩) (Nat.le_refl _) (.int .i64 (n : Int))
  generalize (w3.setCell ⟨w.heap.size, 0, none⟩ (.pointer root)).setCell ⟨w.heap.size, 1, none⟩ (.int .i64 (n : Int)) = w4 at *
  simp only [if_neg (show ¬ (0 : Nat) = 1 by omega), if_pos rfl] at q0 q1
  refine bodyPost_ret (v := .agg #[.pointer root, .int .i64 n]) (by simp [results, Try.results29, go_sem, q0, q1]) rfl ⟨B4, root, _, rfl, HTREE.out.k2 k4, ?_⟩
  rcases Nat.eq_zero_or_pos (npc n 64) with h | h
  · have : n = 0 := by
      rcases Nat.eq_zero_or_pos n with h' | h'
      · exact h'
      · have := npc_pos (n := n) (most := 64) (by omega) h'; omega
    rw [h]
    subst this
    rw [List.eq_nil_of_length_eq_zero hz]; rfl
  · exact leaves_flat h

end Go.Proofs.Qxb6613757a.T
