import Derived.Test.Qxb6613757aEd1
import Derived.Deep.DeepCutAuto
/-
  treeNode.edited: the walk.
-/
namespace Go.Proofs.Qxb6613757a.T
open Go.RowKit Go.Shelf
set_option linter.unusedVariables false
set_option linter.unusedSimpArgs false

set_option maxHeartbeats 1000000 in
theorem joins48_0 (a : Option Addr) (lc : Nat) (w : World) : Calls Try.prog 48 #[.slice a 0 lc] w fun e w' => w' = w ∧ e = .returned (.slice a 0 lc) := by
  go_enter Try.func48, Try.ntmps48
  go_wp2
  refine wp_loop_rounds 1 ?_
  rw [rounds_succ]
  go_wp2
  go_ret
  exact ⟨rfl, rfl⟩

/-- the children are gathered: what is left is joinSmall and appendParents -/
theorem ed_end {w wr : World} {h g u n cap : Nat} {v0 : Value} {rs0 rs1 : List Rec} {Ls Ks : List (List (List Int))} {ds xs : List Int} (hu : rs0.length = u) (hn : rs1.length = n) (hlev : Lev w v0 rs0 (.slice (some ⟨g, 0, none⟩) (u + n) cap) rs1 wr) (hks : Kids wr h rs1 Ks) (hEd : Ed (ents Ls) ds xs (ents Ks)) (hM : (ents Ks).length ≤ 1048576)
    (la : Option Addr) (hla : 1 ≤ n → la = some ⟨g, u * 5, none⟩) :
    Calls Try.prog 48 #[.slice la n (cap - u)] wr fun e w' => ∃ n' , e = .returned (.slice la n' (cap - u)) ∧
      Calls Try.prog 43 #[.slice (some ⟨g, 0, none⟩) u cap, .slice la n' (cap - u)] w' fun e2 w2 => EdR w h v0 rs0 (ents Ls) ds xs e2 w2 ∧ ∃ v, e2 = .returned v := by
  obtain ⟨l1, l2, l3, l4, l5⟩ := hlev
  have hNl : (rs0 ++ rs1).length = u + n := by simp [hu, hn]
  rw [hNl] at l1
  obtain ⟨c1, c2, _⟩ := own_shape81 l1
  have fin : ∀ (w1 : World) (n' : Nat) (rs' : List Rec) (Ls' : List (List (List Int))), wr.grownBy w1 (some g) → rs'.length = n' → n' ≤ n → w1.ownsRow 0 81 5 (.slice (some ⟨g, 0, none⟩) (u + n') cap) (u + n') (recCells (rs0 ++ rs')) → Kids w1 h rs' Ls' → ents Ls' = ents Ks →
      Calls Try.prog 43 #[.slice (some ⟨g, 0, none⟩) u cap, .slice la n' (cap - u)] w1 fun e2 w2 => EdR w h v0 rs0 (ents Ls) ds xs e2 w2 ∧ ∃ v, e2 = .returned v := by
    intro w1 n' rs' Ls' hg1 hr' hn' hown1 hk1 hE1
    have hlen' := kids_len hks
    refine (callsIn_wide.1 (parentsA g u n' cap (cap - u) h la rs0 rs' Ls' w1 hu hr' (fun h => hla (by omega)) (by omega) (by omega) hown1 hk1 (by rw [hE1]; exact hM))).mono ?_
    rintro e w2 ⟨hg2, ps, rfl, hpl, hrow2, hk2⟩
    have hg12 : wr.grownBy w2 (some g) := World.grownBy.trans hg1 hg2
    refine ⟨⟨grown_trans l4 hg12 l2, _, ps, ups Ls' (npc n' 16), rfl, ?_, l2, by simp [Value.ownBlock], kids_ups hpl (fun i hi => (hk2 i hi).1), ?_⟩, _, rfl⟩
    · have e : (rs0 ++ ps).length = u + npc n' 16 := by simp [hu, hpl]
      rw [e]; exact hrow2
    · have e : ents (ups Ls' (npc n' 16)) = ents Ls' := by
        rcases Nat.eq_zero_or_pos (npc n' 16) with h0 | h0
        · have : n' = 0 := by
            rcases Nat.eq_zero_or_pos n' with h' | h'
            · exact h'
            · have := npc_pos (n := n') (most := 16) (by omega) h'; omega
          have hl0 : Ls'.length = 0 := by rw [← hk1.1]; omega
          rw [h0, List.eq_nil_of_length_eq_zero hl0]; rfl
        · unfold ents; rw [ups_flat h0]
      rw [e, hE1]; exact hEd
  rcases Nat.eq_zero_or_pos n with h0 | h0
  · subst h0
    refine (joins48_0 la (cap - u) wr).mono ?_
    rintro e w' ⟨rfl, rfl⟩
    exact ⟨0, rfl, fin w' 0 rs1 Ks (World.grownBy.refl _ _) hn (Nat.le_refl _) l1 hks rfl⟩
  · obtain rfl := hla h0
    refine (joins48 h (joinC h) g u n cap (cap - u) rs0 rs1 Ks wr hu hn h0 (by omega) (by omega) l1 hks hM).mono ?_
    rintro e w1 ⟨hg1, n', rs', Ls', rfl, hr', h1', hn', hown1, hk1, hE1⟩
    exact ⟨n', rfl, fin w1 n' rs' Ls' hg1 hr' hn' hown1 hk1 hE1⟩

end Go.Proofs.Qxb6613757a.T
