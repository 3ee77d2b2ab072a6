import Derived.Test.Qxb6613757aJs
/-
  joined, two leaves.
-/
namespace Go.Proofs.Qxb6613757a.T
open Go.RowKit Go.Shelf
set_option linter.unusedVariables false
set_option linter.unusedSimpArgs false

theorem own_up {w : World} {base size n : Nat} {e : TypeId} {v : Value} {xs : List Value} (h : w.ownsRow 0 e size v n xs) (hb : ∀ g, v.ownBlock = some g → base ≤ g) : w.ownsRow base e size v n xs := by
  refine ⟨h.1, ?_⟩
  rcases h.2 with h0 | ⟨g, cap, cur, h1, h2, h3⟩
  · exact .inl h0
  · exact .inr ⟨g, cap, cur, h1, hb g (by rw [h1]; rfl), h3⟩

theorem npc_two {n most : Nat} (h1 : 1 ≤ n) (hm : 1 ≤ most) (h2 : n ≤ 2 * most) : 1 ≤ npc n most ∧ npc n most ≤ 2 := by
  refine ⟨npc_pos hm h1, ?_⟩
  unfold npc
  exact Nat.le_of_lt_succ ((Nat.div_lt_iff_lt_mul hm).2 (by omega))
/-- of two pieces each holds at least half of most -/
theorem npc_half {n most i : Nat} (hm : 1 ≤ most) (h : npc n most = 2) (hi : i < 2) : most / 2 ≤ cutAt n 2 (i + 1) - cutAt n 2 i := by
  have hn : most < n := by
    rcases Nat.lt_or_ge most n with h' | h'
    · exact h'
    · exfalso
      have : npc n most ≤ 1 := by
        unfold npc
        exact Nat.le_of_lt_succ ((Nat.div_lt_iff_lt_mul hm).2 (by omega))
      omega
  unfold cutAt
  match i, hi with
  | 0, _ => simp; omega
  | 1, _ => simp; omega

theorem leaf_joined {w w3 : World} {zs : List Int} {n : Nat} {v : Value} {ns : List Rec} {La Lb : List (List Int)} (hz : zs.length = n) (h1 : 1 ≤ n) (h128 : n ≤ 128) (hE : zs = La.flatten ++ Lb.flatten) (hB : Below w.heap.size w w3) (hrow : w3.ownsRow 0 81 5 v ns.length (recCells ns)) (hob : ∀ g, v.ownBlock = some g → w.heap.size ≤ g)
    (hns : ns.length = npc n 64) (hk : ∀ j, j < npc n 64 → KidRec w3 0 (rc ns j) [piece zs (npc n 64) j] ∧ (rc ns j).fresh = true) : Joined w 0 La Lb (.returned v) w3 := by
  obtain ⟨p1, p2⟩ := npc_two (n := n) (most := 64) h1 (by omega) (by omega)
  refine ⟨hB, v, ns, _, rfl, own_up hrow hob, by omega, by omega, kids_leaves hns (fun j hj => (hk j hj).1), ?_, fun h2 i hi => ?_⟩
  · rw [← hE]; exact leaves_flat (by omega)
  · obtain ⟨⟨ys, e, _, _, hn, _, _, _, _, hc⟩, hf⟩ := hk i (by omega)
    refine .inl ⟨hn, ?_⟩
    have h2' : npc n 64 = 2 := by omega
    have hy : ys = piece zs 2 i := by
      have := e
      rw [h2'] at this
      simpa using this.symm
    have hl : ys.length = cutAt n 2 (i + 1) - cutAt n 2 i := by rw [hy, piece_length zs (by omega) hi, hz]
    have := npc_half (n := n) (most := 64) (by omega) h2' hi
    rw [hc, hl]
    simp
    intro _
    omega

set_option maxRecDepth 100000 in
set_option maxHeartbeats 2000000 in
theorem joined55_leaf : JoinC 0 := by
  intro a b La Lb w ha hb hlen
  obtain ⟨xs, rfl, x1, x2, hna, hra, hla, hlca, _, _⟩ := ha
  obtain ⟨ys, rfl, y1, y2, hnb, hrb, hlb, hlcb, _, _⟩ := hb
  obtain ⟨alast, acount, ala, all, alc, anode, afresh⟩ := a
  obtain ⟨blast, bcount, bla, bll, blc, bnode, bfresh⟩ := b
  simp only at hna hra hla hlca hnb hrb hlb hlcb
  subst hna
  subst hnb
  obtain ⟨zs, hzs⟩ : ∃ zs, xs ++ ys = zs := ⟨_, rfl⟩
  have hzl : zs.length = all + bll := by rw [← hzs, List.length_append, hla, hlb]
  have H61 : Hid (∀ (W : World) (bs : Nat), K2 w W → bs < W.heap.size → W.cell? ⟨bs, 0, none⟩ = some (.slice ala all alc) → W.cell? ⟨bs, 0 + 1, none⟩ = some (.slice bla bll blc) →
      Calls Try.prog 61 #[.slice (some ⟨bs, 0, none⟩) 2 2] W fun e w' => Below W.heap.size W w' ∧ ∃ v, e = .returned v ∧ OwnU w' W.heap.size v zs) := fun W bs hk hbs k1 k2 => by
    rw [← hzs]
    exact concat61 bs 0 2 ala bla all alc bll blc xs ys W hla.symm hlb.symm (by omega) (by omega) (hra.k2 hk) (hrb.k2 hk) hbs k1 k2
  have HZ : Hid (zs = [xs].flatten ++ [ys].flatten) := by show _ = _; simp [hzs]
  have HN : Hid (1 ≤ zs.length ∧ zs.length ≤ 128) := ⟨by omega, by omega⟩
  have hW3 : ∀ A B C : Obj, Below w.heap.size w (((w.alloc A).alloc B).alloc C) := fun A B C => (((Below.refl _ w).alloc (Nat.le_refl _) _).alloc (by simp) _).alloc (by simp; omega) _
  have HW3 := hide hW3
  clear hla hlb hra hrb hlca hlcb hlen hzs hzl hW3 x1 x2 y1 y2
  unfold Rec.val
  go_enter Try.func55, Try.ntmps55
  go_wp2_with (first
    | (go_at_call 61; refine (H61.out _ _ (K2.below (HW3.out _ _ _)) (by simp <;> omega) (by simp [go_sem]) (by simp [go_sem])).mono ?_; rintro e w2 ⟨hB2, v, rfl, hown2⟩
       obtain ⟨va, vc, rfl, hvc⟩ := ownsRow_shape hown2
       have HB2 := hide hB2
       have HO2 := hide hown2
       clear hB2 hown2)
    | (go_at_call 35; refine (callsIn_wide.1 (leaves35 (.slice none 0 0) [] va zs.length vc zs false w2 rfl (by have := HN.out; omega) hvc HO2.out.row.2.2 (World.ownsRow_nil _ _ _ _) (by simp))).mono ?_; rintro e w3 ⟨hg3, v3, ns, rfl, hrow3, hob3, hns, hk3⟩
       have HG3 := hide hg3
       have HROW3 := hide hrow3
       have HOB3 := hide hob3
       have HNS := hide hns
       have HK3 := hide hk3
       clear hg3 hrow3 hob3 hns hk3))
  go_ret
  have hBW := (HW3.out _ _ _).trans (HB2.out.mono (HW3.out _ _ _).size)
  refine leaf_joined rfl HN.out.1 HN.out.2 HZ.out (hBW.grown HG3.out hBW.size (fun l e => by cases e)) (by simpa using HROW3.out) ?_ HNS.out HK3.out
  intro g (hg : v3.ownBlock = some g)
  rcases HOB3.out with h | ⟨g', h, hgg⟩
  · rw [hg] at h; cases h
  · rw [hg] at h; cases h; have := hBW.size; omega

end Go.Proofs.Qxb6613757a.T
