import Derived.Test.Qxb6613757aParA
/-
  appendParents onto nil, the children lying elsewhere.
-/
namespace Go.Proofs.Qxb6613757a.T
open Go.RowKit Go.Shelf
attribute [local go_sem] Oper.semAt_some
set_option linter.unusedVariables false
set_option linter.unusedSimpArgs false

def PB (w : World) (c lcap : Nat) (la : Option Addr) (Ls : List (List (List Int))) (h k : Nat) (pre : List (Ix k)) (W : World) : Prop :=
  Below w.heap.size w W ∧ Boxed W (w.heap.size + 1) 63 (.slice la c lcap) ∧ Boxed W (w.heap.size + 2) 3 (.int .i64 c) ∧ Boxed W (w.heap.size + 3) 3 (.int .i64 16) ∧
  ∃ (v : Value) (ps : List Rec), Boxed W w.heap.size 63 v ∧ W.ownsRow w.heap.size 81 5 v ps.length (recCells ps) ∧ ps.length = pre.length ∧
    ∀ i, i < pre.length → ∃ x : Ix k, pre[i]? = some x ∧ KidRec W (h + 1) (rc ps i) (piece Ls k x.1).flatten ∧ (rc ps i).fresh = true ∧ SizeIs W (rc ps i) (cutAt c k (x.1 + 1) - cutAt c k x.1)

theorem PB.own {w : World} {c lcap : Nat} {la : Option Addr} {Ls : List (List (List Int))} {h k B : Nat} (hB : w.heap.size ≤ B) : OwnFrom B (fun (pre : List (Ix k)) W => PB w c lcap la Ls h k pre W) := by
  rintro pre W W' row ⟨hg, b1, b2, b3, v, ps, b0, hrow, hlen, hst⟩ hgr hr
  have hr' : ∀ r, row = some r → ∃ o : Obj, W.heap[r]? = some o ∧ o.isCells = false := fun r e => (hr r e).2
  have hne : ∀ {B' : Nat} {t : TypeId} {u : Value}, Boxed W B' t u → some B' ≠ row := fun {B' t u} hb e => by
    obtain ⟨o, ho, hc⟩ := hr' _ e.symm
    rw [show W.heap[B']? = _ from hb] at ho; cases ho; simp [Obj.isCells] at hc
  have k2 := k2_other hgr hr'
  refine ⟨?_, b1.kept hgr (hne b1), b2.kept hgr (hne b2), b3.kept hgr (hne b3), v, ps, b0.kept hgr (hne b0), hrow.kept hgr ?_, hlen, fun i hi => ?_⟩
  · refine ⟨hgr.os.trans hg.os, hgr.tape.trans hg.tape, hgr.output.trans hg.output, Nat.le_trans hg.size hgr.size, fun j hj => ?_⟩
    rw [hgr.block j (Nat.lt_of_lt_of_le hj hg.size) (fun e => by have := (hr j e.symm).1; omega)]
    exact hg.block j hj
  · by_cases hvn : v.ownBlock = none
    · exact .inl hvn
    · refine .inr fun e => ?_
      obtain ⟨l, hl⟩ := Option.ne_none_iff_exists'.1 hvn
      obtain ⟨cur, hc⟩ := own_type hrow l hl
      obtain ⟨o, ho, hcc⟩ := hr' l (e ▸ hl)
      rw [hc] at ho; cases ho; simp [Obj.isCells] at hcc
  · obtain ⟨x, hx, z1, z2, z3⟩ := hst i hi
    exact ⟨x, hx, z1.k2 k2, z2, z3.k2 k2⟩

theorem own_base {w : World} {v : Value} {base size n : Nat} {e : TypeId} {xs : List Value} (h : w.ownsRow base e size v n xs) : ∀ l, v.ownBlock = some l → base ≤ l := by
  intro l hl
  rcases h.2 with ⟨rfl, _⟩ | ⟨g, cap, cur, rfl, hb, _⟩
  · simp [Value.ownBlock] at hl
  · obtain rfl : g = l := by simpa [Value.ownBlock] using hl
    exact hb

theorem parb_step {w W w1 w2 : World} {c lcap h k : Nat} {la : Option Addr} {kids ps : List Rec} {Ls : List (List (List Int))} {pre : List (Ix k)} {x : Ix k} {nb B : Nat} {q : Int} {o1 o2 : Obj} {r : Rec} {v v' : Value}
    (hkl : kids.length = c) (hkids : Kids w h kids Ls) (hM : (ents Ls).length ≤ 1048576) (hkc : k ≤ c) (hk16 : c ≤ k * 16)
    (hg : Below w.heap.size w W) (b1 : Boxed W (w.heap.size + 1) 63 (.slice la c lcap)) (b2 : Boxed W (w.heap.size + 2) 3 (.int .i64 c)) (b3 : Boxed W (w.heap.size + 3) 3 (.int .i64 16)) (b0 : Boxed W w.heap.size 63 v)
    (hrow : W.ownsRow w.heap.size 81 5 v ps.length (recCells ps)) (hlen : ps.length = pre.length)
    (hst : ∀ i, i < pre.length → ∃ x : Ix k, pre[i]? = some x ∧ KidRec W (h + 1) (rc ps i) (piece Ls k x.1).flatten ∧ (rc ps i).fresh = true ∧ SizeIs W (rc ps i) (cutAt c k (x.1 + 1) - cutAt c k x.1))
    (hbel : Below W.heap.size W w1)
    (hnode : Modest ((kids.drop (cutAt c k x.1)).take (cutAt c k (x.1 + 1) - cutAt c k x.1)) → q = sumC ((kids.drop (cutAt c k x.1)).take (cutAt c k (x.1 + 1) - cutAt c k x.1)) ∧
      w1.rowIs nb 73 66 (nodeCell (cutAt c k (x.1 + 1) - cutAt c k x.1) (rc ((kids.drop (cutAt c k x.1)).take (cutAt c k (x.1 + 1) - cutAt c k x.1)) 0).node.isNone ((kids.drop (cutAt c k x.1)).take (cutAt c k (x.1 + 1) - cutAt c k x.1)) (cutAt c k (x.1 + 1) - cutAt c k x.1)))
    (hr : r = ⟨(rc ((kids.drop (cutAt c k x.1)).take (cutAt c k (x.1 + 1) - cutAt c k x.1)) (cutAt c k (x.1 + 1) - cutAt c k x.1 - 1)).last, q, none, 0, 0, some ⟨nb, 0, none⟩, true⟩)
    (hgr : ((w1.alloc o1).alloc o2).grownBy w2 v.ownBlock) :
    Boxed w2 w.heap.size 63 v ∧
    (w2.ownsRow w.heap.size 81 5 v' (ps.length + 1) (recCells ps ++ r.cells) →
      KeepsFrom B W (w2.setCell ⟨w.heap.size, 0, none⟩ v') ∧ Kp2 (w.heap.size + 2) (w.heap.size + 3) W (w2.setCell ⟨w.heap.size, 0, none⟩ v') ∧ PB w c lcap la Ls h k (pre ++ [x]) (w2.setCell ⟨w.heap.size, 0, none⟩ v')) := by
  have hsz : w.heap.size ≤ W.heap.size := hg.size
  have gA : W.grownBy ((w1.alloc o1).alloc o2) none := by
    refine ⟨hbel.os, hbel.tape, hbel.output, ?_, fun j hj _ => ?_⟩
    · have := hbel.size; simp; omega
    · have := hbel.size
      rw [Below.heap_alloc _ _ _ (by simp; omega), Below.heap_alloc _ _ _ (by omega)]; exact hbel.block j hj
  have rA := hrow.kept gA (Classical.em _)
  have g2 : W.grownBy w2 v.ownBlock := by
    refine ⟨hgr.os.trans gA.os, hgr.tape.trans gA.tape, hgr.output.trans gA.output, Nat.le_trans gA.size hgr.size, fun j hj hjr => ?_⟩
    rw [hgr.block j (Nat.lt_of_lt_of_le hj gA.size) hjr]; exact gA.block j hj (by simp)
  have c0 := b0.kept g2 (b0.not_row (by decide) hrow)
  have c1 := b1.kept g2 (b1.not_row (by decide) hrow)
  have c2 := b2.kept g2 (b2.not_row (by decide) hrow)
  have c3 := b3.kept g2 (b3.not_row (by decide) hrow)
  have kA2 : K2 ((w1.alloc o1).alloc o2) w2 := own_k2 rA hgr
  have k12 : K2 w1 w2 := (K2.trans (K2.alloc w1 o1) (K2.alloc _ o2)).trans kA2
  have kW2 : K2 W w2 := own_k2 hrow g2
  have kw1 : K2 w w1 := (K2.below hg).trans (K2.below hbel)
  have kSet : K2 w2 (w2.setCell ⟨w.heap.size, 0, none⟩ v') := K2.setCell (p := ⟨w.heap.size, 0, none⟩) c0 ⟨by decide, by decide⟩ v'
  refine ⟨c0, fun hown => ⟨?_, ?_, ?_⟩⟩
  · refine KeepsOthers.from ?_ _
    refine (KeepsOthers.of_grownBy g2 fun j o ej hj => ?_).trans (KeepsOthers.setCell _ _ _)
    obtain ⟨cur, hc⟩ := own_type hrow j ej
    rw [hc] at hj; cases hj; rfl
  · constructor
    · rw [Below.heap_setCell _ _ _ _ (by show _ ≠ w.heap.size; omega)]; exact c2.trans b2.symm
    · rw [Below.heap_setCell _ _ _ _ (by show _ ≠ w.heap.size; omega)]; exact c3.trans b3.symm
  · have other : ∀ {B' : Nat} {t : TypeId} {u : Value}, Boxed w2 B' t u → B' ≠ w.heap.size → Boxed (w2.setCell ⟨w.heap.size, 0, none⟩ v') B' t u := fun {B' t u} hb hne => by
      show (w2.setCell _ _).heap[B']? = _
      rw [Below.heap_setCell _ _ _ _ (by exact hne)]; exact hb
    refine ⟨?_, other c1 (by omega), other c2 (by omega), other c3 (by omega), v', ps ++ [r], c0.set v', ?_, by simp [hlen], fun i hi => ?_⟩
    · refine (hg.grown g2 hg.size (fun l hl => own_base hrow l hl)).setCell (p := ⟨w.heap.size, 0, none⟩) (Nat.le_refl _) _
    · have := hown.kept (grownBy_setCell' w2 w.heap.size v') (.inr (c0.not_row (by decide) hown).symm)
      rw [recCells_append]
      simpa [recCells] using this
    · have hk0 : 0 < k := by have := x.2; omega
      by_cases hil : i < pre.length
      · obtain ⟨y, hy, z1, z2, z3⟩ := hst i hil
        refine ⟨y, by rw [List.getElem?_append_left hil]; exact hy, ?_, ?_, ?_⟩ <;> rw [rc_app_left (by omega)]
        · exact (z1.k2 kW2).k2 kSet
        · exact z2
        · exact (z3.k2 kW2).k2 kSet
      · have : i = pre.length := by simp at hi; omega
        subst this
        have hLc : Ls.length = c := by rw [← hkids.1, hkl]
        have t1 := cutAt_step hk0 hkc x.1
        have t3 := cutAt_le (n := c) hk0 (show x.1 + 1 ≤ k from x.2)
        have t4 := cutAt_most hk0 hk16 x.1
        have hK : Kids w1 h ((kids.drop (cutAt c k x.1)).take (cutAt c k (x.1 + 1) - cutAt c k x.1)) (piece Ls k x.1) := by
          unfold piece
          rw [hLc]
          exact ((hkids.k2 kw1).drop _).take _
        have hmod : Modest ((kids.drop (cutAt c k x.1)).take (cutAt c k (x.1 + 1) - cutAt c k x.1)) := by
          have hm := kids_modest hkids hM
          intro i hi
          have hi' : i < cutAt c k (x.1 + 1) - cutAt c k x.1 := by simp at hi; omega
          rw [rc_take hi', rc_drop]
          exact hm _ (by omega)
        obtain ⟨n1, n2⟩ := hnode hmod
        have hpk := parent_kid hK (by simp [hkl]; omega) (by omega) (by omega) n2 n1
        rw [← hr] at hpk
        have hsi : SizeIs w1 r (cutAt c k (x.1 + 1) - cutAt c k x.1) := ⟨nb, _, by rw [hr], n2, rfl⟩
        refine ⟨x, by simp, ?_, ?_, ?_⟩ <;> rw [rc_app_right (by omega), hlen, Nat.sub_self, show rc [r] 0 = r from rfl]
        · exact (hpk.k2 k12).k2 kSet
        · rw [hr]
        · exact (hsi.k2 k12).k2 kSet

end Go.Proofs.Qxb6613757a.T
