import Derived.Test.Qxb6614817aC
namespace Go.Proofs.Qxb6614817a.A
open Go.RowKit
set_option linter.unusedVariables false

theorem mem_el (zs : List Int) (j : Nat) (h : j < zs.length) : el zs j ∈ zs := by rw [el_eq zs j h]; exact List.getElem_mem h

theorem pts_pos (zs : List Int) (j : Nat) (h : j < zs.length) (h46 : el zs j = 46) : 1 ≤ pts zs := by
  unfold pts
  exact List.countP_pos_iff.2 ⟨el zs j, mem_el zs j h, by rw [h46]; decide⟩

theorem one_point (zs : List Int) (k j : Nat) (hp : pts zs ≤ 1) (hk : k < j) (hj : j < zs.length) (h1 : el zs k = 46) : el zs j ≠ 46 := by
  intro h2
  have e : pts zs = pts (zs.take (k + 1)) + pts (zs.drop (k + 1)) := by
    unfold pts; rw [← List.countP_append, List.take_append_drop]
  have p1 : 1 ≤ pts (zs.take (k + 1)) := pts_pos _ k (by simp; omega) (by
    rw [el_eq _ k (by simp; omega), List.getElem_take, ← el_eq zs k (by omega)]; exact h1)
  have p2 : 1 ≤ pts (zs.drop (k + 1)) := pts_pos _ (j - (k + 1)) (by simp; omega) (by
    rw [el_eq _ _ (by simp; omega), List.getElem_drop, ← el_eq zs _ (by omega), show k + 1 + (j - (k + 1)) = j from by omega]; exact h2)
  omega

/-- THE PLAIN LAW: both parts are empty just where no digit is other than 0 -/
theorem parts_nz (zs : List Int) (l1 l2 : Nat) (hw : Well zs)
    (h : (∃ k : Nat, k < zs.length ∧ el zs k = 46 ∧ (∀ j, j < k → el zs j ≠ 46) ∧ (l1 = 0 ↔ zer zs 0 k) ∧ (l2 = 0 ↔ zer zs (k + 1) zs.length)) ∨
     ((∀ j, j < zs.length → el zs j ≠ 46) ∧ (l1 = 0 ↔ zer zs 0 zs.length) ∧ l2 = 0)) : (l1 = 0 ∧ l2 = 0) ↔ ¬ nz zs := by
  obtain ⟨w1, w2, w3⟩ := hw
  have dig : ∀ j, j < zs.length → el zs j ≠ 46 → 48 ≤ el zs j ∧ el zs j ≤ 57 := fun j hj hn => by
    have := w1 j hj
    simp only [wf1, Bool.or_eq_true, isD_iff, beq_iff_eq] at this
    rcases this with h | h
    · exact h
    · exact absurd h hn
  rcases h with ⟨k, hk, h46, hall, e1, e2⟩ | ⟨hall, e1, e2⟩
  · constructor
    · rintro ⟨z1, z2⟩ ⟨j, hj, n1, n2⟩
      rcases Nat.lt_trichotomy j k with h | h | h
      · have := e1.1 z1 j (Nat.zero_le _) h; omega
      · subst h; omega
      · have := e2.1 z2 j (by omega) hj; omega
    · intro hn
      refine ⟨e1.2 fun j _ hj => ?_, e2.2 fun j h1 hj => ?_⟩
      · have := dig j (by omega) (hall j hj)
        by_cases h : 49 ≤ el zs j
        · exact absurd ⟨j, by omega, h, this.2⟩ hn
        · omega
      · have := dig j hj (one_point zs k j w3 (by omega) hj h46)
        by_cases h : 49 ≤ el zs j
        · exact absurd ⟨j, hj, h, this.2⟩ hn
        · omega
  · constructor
    · rintro ⟨z1, z2⟩ ⟨j, hj, n1, n2⟩
      have := e1.1 z1 j (Nat.zero_le _) hj; omega
    · intro hn
      refine ⟨e1.2 fun j _ hj => ?_, e2⟩
      have := dig j hj (hall j hj)
      by_cases h : 49 ≤ el zs j
      · exact absurd ⟨j, hj, h, this.2⟩ hn
      · omega

set_option maxHeartbeats 400000 in
theorem sign10 (neg : Bool) (hid : Int) (b o len cap : Nat) (zs : List Int) (w : World) (hz : zs.length = len) (hl : len ≤ 1048576) (hcap : len ≤ cap) (hcm : cap ≤ maxLen) (hbw : b < w.heap.size) (hc : Bytes w b o zs) (hw : Well zs) :
    Calls Try.prog 10 #[.agg #[.bool neg, .int .i32 hid, .slice (some ⟨b, o, none⟩) len cap]] w fun e w' => Below w.heap.size w w' ∧
      ((nz zs ∧ e = .returned (.int .i64 (if neg then -1 else 1))) ∨ (¬ nz zs ∧ e = .returned (.int .i64 0))) := by
  have hcm0 := hcm
  unfold maxLen at hcm
  go_enter Try.func10, Try.ntmps10
  go_wp2_with fail
  have hb0 := ((Below.refl w.heap.size w).alloc (Nat.le_refl _) (.cells #[.bool neg, .int .i32 hid, .slice (some ⟨b, o, none⟩) len cap] 27))
  refine (parts11 neg hid b o len cap zs _ hz hl hcap hcm0 (by simp; omega) (hc.kept hb0 hbw)).mono ?_
  rintro e w1 ⟨hb1, a1, l1, c1, a2, l2, c2, rfl, hl1, hl2, hp⟩
  have hs1 : w1.cell? ⟨w.heap.size, 0, none⟩ = some (.bool neg) := by
    rw [(bcell hb1).1 _ _ (by simp)]; simp [go_sem]
  have HB : Hid (Below w.heap.size w w1) := hb0.trans (hb1.mono (by simp))
  subst hz
  have HL : Hid ((l1 = 0 ∧ l2 = 0) ↔ ¬ nz zs) := parts_nz zs l1 l2 hw hp
  clear hb0 hb1 hc hp hw
  go_wp2_with fail
  refine (psign12 neg a1 a2 l1 c1 l2 c2 _ (by omega) (by omega)).mono ?_
  rintro e w2 ⟨rfl, rfl⟩
  by_cases h0 : l1 = 0 ∧ l2 = 0
  · rw [if_pos h0]
    have HN : Hid (¬ nz zs) := HL.out.1 h0
    clear HL
    cases neg
    all_goals
      go_wp2
      go_ret
      exact ⟨HB.out, .inr ⟨HN.out, rfl⟩⟩
  · rw [if_neg h0]
    have HN : Hid (nz zs) := Classical.byContradiction fun h => h0 (HL.out.2 h)
    cases neg
    all_goals
      go_wp2
      go_ret
      exact ⟨HB.out, .inl ⟨HN.out, rfl⟩⟩

end Go.Proofs.Qxb6614817a.A
