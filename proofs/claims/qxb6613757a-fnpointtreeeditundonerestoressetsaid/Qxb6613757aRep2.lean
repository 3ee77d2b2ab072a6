import Derived.Test.Qxb6613757aRep
/-
  slices.Replace in place: the walk.
-/
namespace Go.Proofs.Qxb6613757a.T
open Go.RowKit Go.Shelf
set_option linter.unusedVariables false
set_option linter.unusedSimpArgs false

/-- j = len(s): append, and clear what is left -/
theorem repA_end {rs0 rs ps : List Rec} {u n i k j e : Nat} (hu : rs0.length = u) (hn : rs.length = n) (hk : ps.length = k) (hj : j = i + 2) (hjn : j = n) (he : e = i + k) (hk2 : k ≤ 2) :
    ((rs0 ++ rs).take (u + i) ++ (ps ++ (rs0 ++ rs).drop (u + i + ps.length))).take (u + e) = rs0 ++ (rs.take i ++ (ps ++ rs.drop j)) := by
  have e1 : (rs0 ++ rs).take (u + i) = rs0 ++ rs.take i := by rw [List.take_append, List.take_of_length_le (by omega)]; congr 2; omega
  have e2 : rs.drop j = [] := List.drop_of_length_le (by omega)
  rw [e1, e2, List.append_nil, ← List.append_assoc, List.take_append, List.take_of_length_le (by simp; omega)]
  have : u + e - (rs0 ++ rs.take i ++ ps).length = 0 := by simp; omega
  rw [this, List.take_zero, List.append_nil, List.append_assoc]
theorem take_keep {xs ys : List Rec} {p M : Nat} (h : M ≤ p) : (xs.take p ++ ys).take M = (xs.take p).take M ++ (ys.take (M - (xs.take p).length)) := by rw [List.take_append]

set_option maxRecDepth 100000 in
set_option maxHeartbeats 2000000 in
theorem rep54A (g u n cap lcap i j k gv cv : Nat) (rs0 rs ps : List Rec) (w : World) (hu : rs0.length = u) (hn : rs.length = n) (hj : j = i + 2) (hjn : j = n) (hk : ps.length = k) (hk1 : 1 ≤ k) (hk2 : k ≤ 2) (hlc : n ≤ lcap) (hN : n ≤ 1048576)
    (hrow : w.ownsRow 0 81 5 (.slice (some ⟨g, 0, none⟩) (u + n) cap) (u + n) (recCells (rs0 ++ rs))) (hsrc : w.ownsRow 0 81 5 (.slice (some ⟨gv, 0, none⟩) k cv) k (recCells ps)) :
    Calls Try.prog 54 #[.slice (some ⟨g, u * 5, none⟩) n lcap, .int .i64 (i : Nat), .int .i64 (j : Nat), .slice (some ⟨gv, 0, none⟩) k cv] w fun r w' => w.grownBy w' (some g) ∧ ∃ e, e + 2 = n + k ∧ r = .returned (.slice (some ⟨g, u * 5, none⟩) e lcap) ∧
      w'.ownsRow 0 81 5 (.slice (some ⟨g, 0, none⟩) (u + e) cap) (u + e) (recCells (rs0 ++ (rs.take i ++ (ps ++ rs.drop j)))) := by
  obtain ⟨e, he⟩ : ∃ e, e = i + k := ⟨_, rfl⟩
  have s1 := slice63_lh g (u * 5) n lcap i j (by omega) (by omega)
  have s2 := slice63_h g (u * 5) n lcap i (by omega)
  have hcells := own_cells hsrc hk 0 k ps (by rw [List.drop_zero, List.take_of_length_le (by omega)])
  rw [Nat.zero_mul] at hcells
  have hend := repA_end hu hn hk hj hjn he hk2
  have hij : ((i : Int) == (j : Int)) = false := by simp; omega
  have hjj : ((j : Int) == (n : Int)) = true := by simp; omega
  have ht0 : (rs0 ++ rs).length = u + n := by simp [hu, hn]
  have HROW := hide hrow
  have HCE := hide hcells
  have HEND := hide hend
  have HT := hide ht0
  have HK := hide hk
  have HE := hide he
  have HJ := hide hj
  have HJN := hide hjn
  have hel : e ≤ 2097152 := by omega
  have HLAST : Hid (∀ w' : World, w'.ownsRow 0 81 5 (.slice (some ⟨g, 0, none⟩) (u + n) cap) (u + n) (recCells ((rs0 ++ rs).take (u + i) ++ (ps ++ (rs0 ++ rs).drop (u + i + ps.length)))) → w'.ownsRow 0 81 5 (.slice (some ⟨g, 0, none⟩) (u + e) cap) (u + e) (recCells (rs0 ++ (rs.take i ++ (ps ++ rs.drop j))))) := fun w' h => by
    rw [← hend]
    exact own_prefix h (by simp only [List.length_append, List.length_take, List.length_drop]; omega) (by omega)
  have HLAST2 : Hid (k = 1 → ∀ w' : World, w'.ownsRow 0 81 5 (.slice (some ⟨g, 0, none⟩) (u + n) cap) (u + n) (recCells (((rs0 ++ rs).take (u + i) ++ (ps ++ (rs0 ++ rs).drop (u + i + ps.length))).take (u + e) ++ ([rec0] ++ ((rs0 ++ rs).take (u + i) ++ (ps ++ (rs0 ++ rs).drop (u + i + ps.length))).drop (u + e + 1)))) → w'.ownsRow 0 81 5 (.slice (some ⟨g, 0, none⟩) (u + e) cap) (u + e) (recCells (rs0 ++ (rs.take i ++ (ps ++ rs.drop j))))) := fun hk1 w' h => by
    have := own_prefix (M := u + e) h (by simp only [List.length_append, List.length_take, List.length_drop, List.length_singleton]; omega) (by omega)
    rw [List.take_append, List.take_take, Nat.min_self] at this
    have e0 : u + e - (((rs0 ++ rs).take (u + i) ++ (ps ++ (rs0 ++ rs).drop (u + i + ps.length))).take (u + e)).length = 0 := by simp only [List.length_append, List.length_take, List.length_drop]; omega
    rw [e0, List.take_zero, List.append_nil, hend] at this
    exact this
  have HXL : Hid (((rs0 ++ rs).take (u + i) ++ (ps ++ (rs0 ++ rs).drop (u + i + ps.length))).length = u + n) := by
    show _ = _
    simp only [List.length_append, List.length_take, List.length_drop]; omega
  have s3 := slice63_l g (u * 5) n lcap e (by omega)
  have hoff : e < n → (if lcap = e then u * 5 else u * 5 + e * 5) = (u + e) * 5 := fun h => by rw [if_neg (by omega)]; omega
  clear hrow hsrc hcells hend ht0 hk he hj hjn hu hn
  by_cases hke : k = 1
  · have hlt : e < n := by have := HE.out; have := HJ.out; have := HJN.out; omega
    rw [hoff hlt] at s3
    have hr1 : Hid (n - e = 1) := by show _ = _; have := HE.out; have := HJ.out; have := HJN.out; omega
    clear hoff
    go_enter Try.func54, Try.ntmps54
    go_wp2_with (first
      | (at_builtin; refine wpList_appR rfl _ _ rfl HROW.out HT.out u i lcap k e ⟨gv, 0, none⟩ cv ps rfl rfl HK.out HE.out HCE.out (by have := HE.out; omega) (by have := HE.out; have := HJ.out; have := HJN.out; omega) ?_; intro w1 hown1 hgr1; have HO1 := hide hown1; have HG1 := hide hgr1; clear hown1 hgr1))
    obtain ⟨w2, hrun2, hown2, hgr2⟩ := run_clear1 HO1.out HXL.out (u + e) ((u + e) * 5) (lcap - e) (n - e) 0 hr1.out rfl (by omega)
    have HO2 := hide hown2
    have HG2 := hide hgr2
    clear hown2 hgr2
    rw [hrun2]
    go_wp2
    go_ret
    exact ⟨World.grownBy.trans HG1.out HG2.out, e, by have := HE.out; have := HJ.out; have := HJN.out; omega, rfl, HLAST2.out hke _ HO2.out⟩
  · have hle : ¬ e < n := by have := HE.out; have := HJ.out; have := HJN.out; omega
    clear hoff
    go_enter Try.func54, Try.ntmps54
    go_wp2_with (first
      | (at_builtin; refine wpList_appR rfl _ _ rfl HROW.out HT.out u i lcap k e ⟨gv, 0, none⟩ cv ps rfl rfl HK.out HE.out HCE.out (by have := HE.out; have := HJ.out; have := HJN.out; omega) (by have := HE.out; have := HJ.out; have := HJN.out; omega) ?_; intro w1 hown1 hgr1; have HO1 := hide hown1; have HG1 := hide hgr1; clear hown1 hgr1))
    go_ret
    exact ⟨HG1.out, e, by have := HE.out; have := HJ.out; have := HJN.out; omega, rfl, HLAST.out _ HO1.out⟩

end Go.Proofs.Qxb6613757a.T
