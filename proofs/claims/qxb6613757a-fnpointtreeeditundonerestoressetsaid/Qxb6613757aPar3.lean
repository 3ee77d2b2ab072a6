import Derived.Test.Qxb6613757aPar2
/-
  appendParents in place: one round.
-/
namespace Go.Proofs.Qxb6613757a.T
open Go.RowKit Go.Shelf
set_option linter.unusedVariables false
set_option linter.unusedSimpArgs false

theorem rec_ext {xs ys : List Rec} (hl : xs.length = ys.length) (h : ∀ i, i < xs.length → rc xs i = rc ys i) : xs = ys := by
  apply List.ext_getElem hl
  intro i h1 h2
  have := h i h1
  rwa [rc_eq _ _ h1, rc_eq _ _ h2] at this
theorem rc_set_same {xs : List Rec} {i : Nat} {r : Rec} (h : i < xs.length) : rc (xs.set i r) i = r := by simp [rc, h]
theorem rc_set_other {xs : List Rec} {i j : Nat} {r : Rec} (h : i ≠ j) : rc (xs.set i r) j = rc xs j := by simp [rc, List.getElem?_set_ne h]
theorem firsts_snoc {k : Nat} {pre : List (Ix k)} {x : Ix k} (hp : (pre ++ [x]).length ≤ k) (h : pre ++ [x] = firsts k (pre ++ [x]).length hp) : ∃ hp' : pre.length ≤ k, pre = firsts k pre.length hp' ∧ x.1 = pre.length := by
  have hl : (pre ++ [x]).length = pre.length + 1 := by simp
  have hp1 : pre.length + 1 ≤ k := by rw [← hl]; exact hp
  have e : firsts k (pre ++ [x]).length hp = firsts k (pre.length + 1) hp1 := by congr 1
  rw [e] at h
  have h' : pre ++ [x] = firsts k pre.length (by omega) ++ [⟨pre.length, by omega⟩] := h
  obtain ⟨h1, h2⟩ := List.append_inj h' (by rw [firsts_length])
  refine ⟨by omega, h1, ?_⟩
  have : x = ⟨pre.length, by omega⟩ := by simpa using h2
  rw [this]

theorem par_step {w W w1 w2 : World} {g u c cap lcap h k : Nat} {la : Option Addr} {rs0 kids lev : List Rec} {Ls : List (List (List Int))} {pre : List (Ix k)} {x : Ix k} {nb B : Nat} {q : Int} {o1 o2 : Obj} {r : Rec}
    (hu : rs0.length = u) (hkl : kids.length = c) (hkids : Kids w h kids Ls) (hM : (ents Ls).length ≤ 1048576) (hkc : k ≤ c) (hk16 : c ≤ k * 16) (hgw : ∃ cur, w.heap[g]? = some (.cells cur 81 (0, 0)))
    (hg : w.grownBy W (some g)) (b1 : Boxed W (w.heap.size + 1) 63 (.slice la c lcap)) (b2 : Boxed W (w.heap.size + 2) 3 (.int .i64 c)) (b3 : Boxed W (w.heap.size + 3) 3 (.int .i64 16)) (b0 : Boxed W w.heap.size 63 (.slice (some ⟨g, 0, none⟩) (u + pre.length) cap))
    (hlev : lev.length = c) (hrow : W.ownsRow 0 81 5 (.slice (some ⟨g, 0, none⟩) (u + c) cap) (u + c) (recCells (rs0 ++ lev)))
    (hst : ∀ hp : pre.length ≤ k, pre = firsts k pre.length hp → (∀ j, cutAt c k pre.length ≤ j → j < c → rc lev j = rc kids j) ∧
      ∀ i, i < pre.length → KidRec W (h + 1) (rc lev i) (piece Ls k i).flatten ∧ (rc lev i).fresh = true ∧ SizeIs W (rc lev i) (cutAt c k (i + 1) - cutAt c k i))
    (hlt : pre.length < k) (hbel : Below W.heap.size W w1) (hnb : W.heap.size ≤ nb)
    (hnode : Modest ((lev.drop (cutAt c k x.1)).take (cutAt c k (x.1 + 1) - cutAt c k x.1)) → q = sumC ((lev.drop (cutAt c k x.1)).take (cutAt c k (x.1 + 1) - cutAt c k x.1)) ∧
      w1.rowIs nb 73 66 (nodeCell (cutAt c k (x.1 + 1) - cutAt c k x.1) (rc ((lev.drop (cutAt c k x.1)).take (cutAt c k (x.1 + 1) - cutAt c k x.1)) 0).node.isNone ((lev.drop (cutAt c k x.1)).take (cutAt c k (x.1 + 1) - cutAt c k x.1)) (cutAt c k (x.1 + 1) - cutAt c k x.1)))
    (hr : r = ⟨(rc ((lev.drop (cutAt c k x.1)).take (cutAt c k (x.1 + 1) - cutAt c k x.1)) (cutAt c k (x.1 + 1) - cutAt c k x.1 - 1)).last, q, none, 0, 0, some ⟨nb, 0, none⟩, true⟩)
    (hgr : ((w1.alloc o1).alloc o2).grownBy w2 (some g)) :
    Boxed w2 w.heap.size 63 (.slice (some ⟨g, 0, none⟩) (u + pre.length) cap) ∧
    (w2.ownsRow 0 81 5 (.slice (some ⟨g, 0, none⟩) (u + c) cap) (u + c) (recCells ((rs0 ++ lev).set (u + pre.length) r)) →
      KeepsFrom B W (w2.setCell ⟨w.heap.size, 0, none⟩ (.slice (some ⟨g, 0, none⟩) (u + pre.length + 1) cap)) ∧ Kp2 (w.heap.size + 2) (w.heap.size + 3) W (w2.setCell ⟨w.heap.size, 0, none⟩ (.slice (some ⟨g, 0, none⟩) (u + pre.length + 1) cap)) ∧
      PI w g u c cap lcap la rs0 kids Ls h k (pre ++ [x]) (w2.setCell ⟨w.heap.size, 0, none⟩ (.slice (some ⟨g, 0, none⟩) (u + pre.length + 1) cap))) := by
  have hsz : w.heap.size ≤ W.heap.size := hg.size
  have gA : W.grownBy ((w1.alloc o1).alloc o2) none := by
    refine ⟨hbel.os, hbel.tape, hbel.output, ?_, fun j hj _ => ?_⟩
    · have := hbel.size; simp; omega
    · have := hbel.size
      rw [Below.heap_alloc _ _ _ (by simp; omega), Below.heap_alloc _ _ _ (by omega)]; exact hbel.block j hj
  have rA := hrow.kept gA (Classical.em _)
  have g2 : W.grownBy w2 (some g) := by
    refine ⟨hgr.os.trans gA.os, hgr.tape.trans gA.tape, hgr.output.trans gA.output, Nat.le_trans gA.size hgr.size, fun j hj hjr => ?_⟩
    rw [hgr.block j (Nat.lt_of_lt_of_le hj gA.size) hjr]; exact gA.block j hj (by simp)
  have c0 := b0.kept g2 (b0.not_row (by decide) hrow)
  have c1 := b1.kept g2 (b1.not_row (by decide) hrow)
  have c2 := b2.kept g2 (b2.not_row (by decide) hrow)
  have c3 := b3.kept g2 (b3.not_row (by decide) hrow)
  have kA2 : K2 ((w1.alloc o1).alloc o2) w2 := own_k2 rA hgr
  have k12 : K2 w1 w2 := (K2.trans (K2.alloc w1 o1) (K2.alloc _ o2)).trans kA2
  have kW2 : K2 W w2 := own_k2 hrow g2
  have kw1 : K2 w w1 := (K2.grown hg (fun l hl cur t fr hb => by
    cases hl
    obtain ⟨cc, hcc⟩ := hgw
    rw [hcc] at hb; cases hb; exact ⟨by decide, by decide⟩)).trans (K2.below hbel)
  generalize hv' : (Value.slice (some ⟨g, 0, none⟩) (u + pre.length + 1) cap) = v'
  have kSet : K2 w2 (w2.setCell ⟨w.heap.size, 0, none⟩ v') := K2.setCell (p := ⟨w.heap.size, 0, none⟩) c0 ⟨by decide, by decide⟩ v'
  refine ⟨c0, fun hown => ⟨?_, ?_, ?_⟩⟩
  · refine KeepsOthers.from ?_ _
    refine (KeepsOthers.of_grownBy g2 fun j o ej hj => ?_).trans (KeepsOthers.setCell _ _ _)
    obtain ⟨cur, hc⟩ := own_type hrow j ej
    rw [hc] at hj; cases hj; rfl
  · constructor
    · rw [Below.heap_setCell _ _ _ _ (by show _ ≠ w.heap.size; omega)]; exact c2.trans b2.symm
    · rw [Below.heap_setCell _ _ _ _ (by show _ ≠ w.heap.size; omega)]; exact c3.trans b3.symm
  · have other : ∀ {B' : Nat} {t : TypeId} {u : Value}, Boxed w2 B' t u → B' ≠ w.heap.size → Boxed (w2.setCell ⟨w.heap.size, 0, none⟩ v') B' t u := fun {B' t u} hb hne => by
      show (w2.setCell _ _).heap[B']? = _
      rw [Below.heap_setCell _ _ _ _ (by exact hne)]; exact hb
    refine ⟨?_, other c1 (by omega), other c2 (by omega), other c3 (by omega), ?_, lev.set pre.length r, by rw [List.length_set, hlev], ?_, fun hp he => ?_⟩
    · refine ⟨g2.os.trans hg.os, g2.tape.trans hg.tape, g2.output.trans hg.output, by simp only [World.setCell, Array.size_modify]; exact Nat.le_trans hg.size g2.size, fun j hj hjr => ?_⟩
      rw [Below.heap_setCell _ _ _ _ (by show _ ≠ w.heap.size; omega), g2.block j (by omega) hjr]
      exact hg.block j hj hjr
    · have := c0.set v'
      rw [← hv'] at this ⊢
      simpa [Nat.add_assoc] using this
    · have := hown.kept (grownBy_setCell' w2 w.heap.size v') (.inr (c0.not_row (by decide) hown).symm)
      rwa [List.set_append_right _ _ (by omega), hu, Nat.add_sub_cancel_left] at this
    · obtain ⟨hp', hpre, hx⟩ := firsts_snoc hp he
      obtain ⟨s1, s2⟩ := hst hp' hpre
      have hk0 : 0 < k := by omega
      have t1 := cutAt_step hk0 hkc pre.length
      have t2 : pre.length ≤ cutAt c k pre.length := by
        have : ∀ i, i ≤ cutAt c k i := fun i => by
          induction i with
          | zero => omega
          | succ i ih => have := cutAt_step hk0 hkc i; omega
        exact this _
      have t3 := cutAt_le (n := c) hk0 (show pre.length + 1 ≤ k by omega)
      have t4 := cutAt_most hk0 hk16 pre.length
      rw [List.length_append, List.length_singleton]
      refine ⟨fun j hj1 hj2 => ?_, fun i hi => ?_⟩
      · rw [rc_set_other (by omega)]; exact s1 j (by omega) hj2
      · by_cases hil : i < pre.length
        · rw [rc_set_other (by omega)]
          obtain ⟨z1, z2, z3⟩ := s2 i hil
          exact ⟨(z1.k2 kW2).k2 kSet, z2, (z3.k2 kW2).k2 kSet⟩
        · obtain rfl : i = pre.length := by omega
          rw [rc_set_same (by omega)]
          rw [hx] at hnode hr
          have hrec : (lev.drop (cutAt c k pre.length)).take (cutAt c k (pre.length + 1) - cutAt c k pre.length) = (kids.drop (cutAt c k pre.length)).take (cutAt c k (pre.length + 1) - cutAt c k pre.length) := by
            refine rec_ext (by simp [hlev, hkl]) fun i hi => ?_
            have hi' : i < cutAt c k (pre.length + 1) - cutAt c k pre.length := by simp at hi; omega
            rw [rc_take hi', rc_take hi', rc_drop, rc_drop]
            exact s1 _ (by omega) (by omega)
          rw [hrec] at hnode hr
          have hLc : Ls.length = c := by rw [← hkids.1, hkl]
          have hK : Kids w1 h ((kids.drop (cutAt c k pre.length)).take (cutAt c k (pre.length + 1) - cutAt c k pre.length)) (piece Ls k pre.length) := by
            unfold piece
            rw [hLc]
            exact ((hkids.k2 kw1).drop _).take _
          have hmod : Modest ((kids.drop (cutAt c k pre.length)).take (cutAt c k (pre.length + 1) - cutAt c k pre.length)) := by
            have hm := kids_modest hkids hM
            intro i hi
            have hi' : i < cutAt c k (pre.length + 1) - cutAt c k pre.length := by simp at hi; omega
            rw [rc_take hi', rc_drop]
            exact hm _ (by omega)
          obtain ⟨n1, n2⟩ := hnode hmod
          have hpk := parent_kid hK (by simp [hkl]; omega) (by omega) (by omega) n2 n1
          rw [← hr] at hpk
          refine ⟨(hpk.k2 k12).k2 kSet, by rw [hr], ?_⟩
          have : SizeIs w1 r (cutAt c k (pre.length + 1) - cutAt c k pre.length) := ⟨nb, _, by rw [hr], n2, rfl⟩
          exact (this.k2 k12).k2 kSet

end Go.Proofs.Qxb6613757a.T
