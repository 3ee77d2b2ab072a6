import Derived.Test.Qxb6613757aRnd
import Derived.Test.Qxb6613757aKid
import Derived.Test.Qxb6613757aCat
/-
  appendLeaves.
-/
namespace Go.Proofs.Qxb6613757a.T
open Go.RowKit Go.Shelf
attribute [local go_sem] Oper.semAt_some
set_option linter.unusedVariables false
set_option linter.unusedSimpArgs false

theorem cutAt_zero (n k : Nat) : cutAt n k 0 = 0 := by simp [cutAt]
theorem cutAt_end (n k : Nat) (h : 0 < k) : cutAt n k k = n := by unfold cutAt; exact Nat.mul_div_cancel_left n h
theorem npc_pos {n most : Nat} (hm : 1 ≤ most) (hn : 1 ≤ n) : 1 ≤ npc n most := by
  unfold npc; exact (Nat.le_div_iff_mul_le hm).2 (by omega)
theorem npc_le {n most : Nat} (hm : 1 ≤ most) : npc n most ≤ n := by
  unfold npc
  rcases Nat.eq_zero_or_pos n with h | h
  · subst h; rw [Nat.div_eq_of_lt (by omega)]; exact Nat.le_refl _
  · apply Nat.div_le_of_le_mul
    obtain ⟨d, rfl⟩ : ∃ d, n = d + 1 := ⟨n - 1, by omega⟩
    rw [Nat.mul_add]; have := Nat.le_mul_of_pos_left d hm; omega
theorem npc_cover {n most : Nat} (hm : 1 ≤ most) : n ≤ npc n most * most := by
  unfold npc
  have h1 := Nat.div_add_mod (n + most - 1) most
  have h2 := Nat.mod_lt (n + most - 1) hm
  rw [Nat.mul_comm]
  generalize most * ((n + most - 1) / most) = q at *
  omega
theorem cutAt_step {n k : Nat} (hk : 0 < k) (hkn : k ≤ n) (j : Nat) : cutAt n k j + 1 ≤ cutAt n k (j + 1) := by
  unfold cutAt
  rw [Nat.add_mul, Nat.one_mul]
  have : (j * n + k) / k = j * n / k + 1 := Nat.add_div_right _ hk
  rw [← this]
  exact Nat.div_le_div_right (by omega)
theorem cutAt_most {n k most : Nat} (hk : 0 < k) (hc : n ≤ k * most) (j : Nat) : cutAt n k (j + 1) ≤ cutAt n k j + most := by
  unfold cutAt
  rw [Nat.add_mul, Nat.one_mul]
  have : (j * n + most * k) / k = j * n / k + most := Nat.add_mul_div_right _ _ hk
  rw [← this]
  exact Nat.div_le_div_right (by rw [Nat.mul_comm most k]; omega)
theorem cutAt_mono {n k i j : Nat} (h : i ≤ j) : cutAt n k i ≤ cutAt n k j := by
  unfold cutAt
  exact Nat.div_le_div_right (Nat.mul_le_mul_right n h)
theorem cutAt_le {n k j : Nat} (hk : 0 < k) (h : j ≤ k) : cutAt n k j ≤ n := by
  have := cutAt_mono (n := n) (k := k) h
  rwa [cutAt_end n k hk] at this

/-- piece j of k of a list -/
def piece {α : Type} (zs : List α) (k j : Nat) : List α := (zs.drop (cutAt zs.length k j)).take (cutAt zs.length k (j + 1) - cutAt zs.length k j)
theorem piece_length {α : Type} (zs : List α) {k j : Nat} (hk : 0 < k) (hj : j < k) : (piece zs k j).length = cutAt zs.length k (j + 1) - cutAt zs.length k j := by
  have h1 := cutAt_le (n := zs.length) (k := k) (j := j + 1) hk hj
  have h2 := cutAt_mono (n := zs.length) (k := k) (i := j) (j := j + 1) (by omega)
  unfold piece
  rw [List.length_take, List.length_drop]
  omega
/-- the pieces in a row are the list -/
theorem pieces_flat {α : Type} (zs : List α) {k : Nat} (hk : 0 < k) : ∀ j, j ≤ k → ((List.range j).map (piece zs k)).flatten = zs.take (cutAt zs.length k j)
  | 0, _ => by simp [cutAt_zero]
  | j + 1, h => by
    rw [List.range_succ, List.map_append, List.flatten_append, pieces_flat zs hk j (by omega)]
    simp only [List.map_cons, List.map_nil, List.flatten_cons, List.flatten_nil, List.append_nil]
    unfold piece
    have h2 := cutAt_mono (n := zs.length) (k := k) (i := j) (j := j + 1) (by omega)
    rw [← List.take_add, Nat.add_sub_cancel' h2]

theorem firsts_get (k : Nat) : ∀ i (h : i ≤ k) (j : Nat) (hj : j < i), (firsts k i h)[j]? = some ⟨j, by omega⟩
  | 0, _, j, hj => by omega
  | i + 1, h, j, hj => by
    unfold firsts
    by_cases e : j < i
    · rw [List.getElem?_append_left (by rw [firsts_length]; exact e)]; exact firsts_get k i _ j e
    · obtain rfl : j = i := by omega
      rw [List.getElem?_append_right (by rw [firsts_length]; omega), firsts_length]; simp

def LI (w : World) (lw : Value) (rs : List Rec) (ea : Option Addr) (n cap : Nat) (zs : List Int) (built : Bool) (k : Nat) (pre : List (Ix k)) (W : World) : Prop :=
  w.grownBy W lw.ownBlock ∧ Boxed W (w.heap.size + 1) 37 (.slice ea n cap) ∧ Boxed W (w.heap.size + 2) 4 (.bool built) ∧ Boxed W (w.heap.size + 3) 3 (.int .i64 n) ∧ Boxed W (w.heap.size + 4) 3 (.int .i64 64) ∧
  ∃ (v : Value) (ns : List Rec), Boxed W w.heap.size 63 v ∧ W.ownsRow 0 81 5 v (rs.length + ns.length) (recCells (rs ++ ns)) ∧ (v.ownBlock = lw.ownBlock ∨ ∃ g, v.ownBlock = some g ∧ w.heap.size ≤ g) ∧ ns.length = pre.length ∧
    ∀ i, i < pre.length → ∃ x : Ix k, pre[i]? = some x ∧ KidRec W 0 (rc ns i) [piece zs k x.1] ∧ (rc ns i).fresh = !built

theorem own_type {w : World} {v : Value} {base size n : Nat} {e : TypeId} {xs : List Value} (h : w.ownsRow base e size v n xs) : ∀ l, v.ownBlock = some l → ∃ cur, w.heap[l]? = some (.cells cur e (0, 0)) := by
  intro l hl
  rcases h.2 with ⟨rfl, _⟩ | ⟨g, cap, cur, rfl, _, hb, _⟩
  · simp [Value.ownBlock] at hl
  · obtain rfl : g = l := by simpa [Value.ownBlock] using hl
    exact ⟨cur, hb⟩
theorem own_k2 {w w' : World} {v : Value} {base size n : Nat} {xs : List Value} (h : w.ownsRow base 81 size v n xs) (hg : w.grownBy w' v.ownBlock) : K2 w w' :=
  K2.grown hg fun l hl cur t fr hb => by
    obtain ⟨c, hc⟩ := own_type h l hl
    rw [hc] at hb; cases hb; exact ⟨by decide, by decide⟩
theorem k2_other {W W' : World} {row : Option Nat} (hg : W.grownBy W' row) (hr : ∀ r, row = some r → ∃ o : Obj, W.heap[r]? = some o ∧ o.isCells = false) : K2 W W' :=
  K2.grown hg fun l hl cur t fr hb => by
    obtain ⟨o, ho, hc⟩ := hr l hl
    rw [ho] at hb; cases hb; simp [Obj.isCells] at hc

theorem LI.own {w : World} {lw : Value} {rs : List Rec} {ea : Option Addr} {n cap : Nat} {zs : List Int} {built : Bool} {k B : Nat} (hB : w.heap.size ≤ B) : OwnFrom B (fun (pre : List (Ix k)) W => LI w lw rs ea n cap zs built k pre W) := by
  rintro pre W W' row ⟨hg, b1, b2, b3, b4, v, ns, b0, hrow, hv, hlen, hk⟩ hgr hr
  have hr' : ∀ r, row = some r → ∃ o : Obj, W.heap[r]? = some o ∧ o.isCells = false := fun r e => (hr r e).2
  have hne : ∀ {B' : Nat} {t : TypeId} {u : Value}, Boxed W B' t u → some B' ≠ row := fun {B' t u} hb e => by
    obtain ⟨o, ho, hc⟩ := hr' _ e.symm
    rw [show W.heap[B']? = _ from hb] at ho; cases ho; simp [Obj.isCells] at hc
  refine ⟨?_, b1.kept hgr (hne b1), b2.kept hgr (hne b2), b3.kept hgr (hne b3), b4.kept hgr (hne b4), v, ns, b0.kept hgr (hne b0), hrow.kept hgr ?_, hv, hlen, fun i hi => ?_⟩
  · refine ⟨hgr.os.trans hg.os, hgr.tape.trans hg.tape, hgr.output.trans hg.output, Nat.le_trans hg.size hgr.size, fun j hj hjr => ?_⟩
    rw [hgr.block j (Nat.lt_of_lt_of_le hj hg.size) (fun e => by have := (hr j e.symm).1; omega)]
    exact hg.block j hj hjr
  · by_cases hvn : v.ownBlock = none
    · exact .inl hvn
    · refine .inr fun e => ?_
      obtain ⟨l, hl⟩ := Option.ne_none_iff_exists'.1 hvn
      obtain ⟨cur, hc⟩ := own_type hrow l hl
      obtain ⟨o, ho, hcc⟩ := hr' l (e ▸ hl)
      rw [hc] at ho; cases ho; simp [Obj.isCells] at hcc
  · obtain ⟨x, hx, hkr, hf⟩ := hk i hi
    exact ⟨x, hx, hkr.k2 (k2_other hgr hr'), hf⟩

theorem ownU_at {w : World} {base : Nat} {v : Value} {zs : List Int} (h : OwnU w base v zs) (h1 : 1 ≤ zs.length) : ∃ lb lo lcap, v = .slice (some ⟨lb, lo, none⟩) zs.length lcap ∧ Hid (Row w (some ⟨lb, lo, none⟩) zs) ∧ Hid (zs.length ≤ lcap) := by
  obtain ⟨a, cap, rfl, hc⟩ := ownsRow_shape h
  obtain ⟨_, _, hr⟩ := h.row
  obtain ⟨lb, lo, rfl, _⟩ := hr.at h1
  exact ⟨lb, lo, cap, rfl, hr, hc⟩
theorem grown_of_below {w w' : World} (h : Below w.heap.size w w') (row : Option Nat) : w.grownBy w' row := ⟨h.os, h.tape, h.output, h.size, fun j hj _ => h.block j hj⟩

theorem slice37_lhm (b o n cap lo hi : Nat) (h1 : lo < hi) (h2 : hi ≤ cap) (w : World) :
    (Instr.slice 37 (.slice (some ⟨b, o, none⟩) n cap) (some (.int .i64 (lo : Int))) (some (.int .i64 (hi : Int))) (some (.int .i64 (hi : Int)))).run Try.prog w = .ok (.slice (some ⟨b, o + lo, none⟩) (hi - lo) (hi - lo)) w := by
  rw [run_slice_lhm w 37 (some ⟨b, o, none⟩) n cap und37 .i64 .i64 .i64 lo hi hi (by omega) (by omega) (by omega) (by omega), elem37, run_size23]
  have : ¬ (hi = lo) := by omega
  simp [sliced, Result.andThen, this, Addr.add]

theorem info81 : (Try.prog.info? 81).map (fun i => (i.zero, i.size, i.bytes)) = some (some (.agg #[.int .u64 0, .int .i64 0, .slice none 0 0, .pointer none, .bool false]), 5, 56) := by kernel_rfl

theorem leaf_step {w W w1 w2 : World} {lw v v' : Value} {rs ns : List Rec} {ea : Option Addr} {n cap : Nat} {zs : List Int} {built : Bool} {k : Nat} {pre : List (Ix k)} {x : Ix k} {ps : List Int} {lb lo lcap B : Nat} {r : Rec} {cells : Array Value}
    (hg : w.grownBy W lw.ownBlock) (b1 : Boxed W (w.heap.size + 1) 37 (.slice ea n cap)) (b2 : Boxed W (w.heap.size + 2) 4 (.bool built)) (b3 : Boxed W (w.heap.size + 3) 3 (.int .i64 n)) (b4 : Boxed W (w.heap.size + 4) 3 (.int .i64 64))
    (b0 : Boxed W w.heap.size 63 v) (hrow : W.ownsRow 0 81 5 v (rs.length + ns.length) (recCells (rs ++ ns))) (hv : v.ownBlock = lw.ownBlock ∨ ∃ g, v.ownBlock = some g ∧ w.heap.size ≤ g) (hlen : ns.length = pre.length)
    (hkk : ∀ i, i < pre.length → ∃ x : Ix k, pre[i]? = some x ∧ KidRec W 0 (rc ns i) [piece zs k x.1] ∧ (rc ns i).fresh = !built)
    (hbel : Below W.heap.size W w1) (hR : Row w1 (some ⟨lb, lo, none⟩) ps) (hps : ps = piece zs k x.1) (h1 : 1 ≤ ps.length) (h64 : ps.length ≤ 64) (hcap : ps.length ≤ lcap)
    (hr : r = ⟨el ps (ps.length - 1), ps.length, some ⟨lb, lo, none⟩, ps.length, lcap, none, !built⟩)
    (hgr : ((w1.alloc (.cells cells 81)).drew).grownBy w2 v.ownBlock) :
    Boxed w2 w.heap.size 63 v ∧ Boxed w2 (w.heap.size + 2) 4 (.bool built) ∧ Row w2 (some ⟨lb, lo, none⟩) ps ∧
    (w2.ownsRow 0 81 5 v' (rs.length + ns.length + 1) (recCells (rs ++ ns) ++ r.cells) → (v'.ownBlock = v.ownBlock ∨ v'.ownBlock = some ((w1.alloc (.cells cells 81)).drew).heap.size) →
      KeepsFrom B W (w2.setCell ⟨w.heap.size, 0, none⟩ v') ∧ Kp2 (w.heap.size + 3) (w.heap.size + 4) W (w2.setCell ⟨w.heap.size, 0, none⟩ v') ∧ LI w lw rs ea n cap zs built k (pre ++ [x]) (w2.setCell ⟨w.heap.size, 0, none⟩ v')) := by
  have hsz : w.heap.size ≤ W.heap.size := hg.size
  have gA : W.grownBy ((w1.alloc (.cells cells 81)).drew) none := by
    refine ⟨hbel.os, hbel.tape, hbel.output, ?_, fun j hj _ => ?_⟩
    · have := hbel.size; show _ ≤ (w1.alloc _).heap.size; simp; omega
    · show (w1.alloc _).heap[j]? = _
      rw [Below.heap_alloc _ _ _ (Nat.lt_of_lt_of_le hj hbel.size)]; exact hbel.block j hj
  have rA := hrow.kept gA (Classical.em _)
  have g2 : W.grownBy w2 v.ownBlock := by
    refine ⟨hgr.os.trans gA.os, hgr.tape.trans gA.tape, hgr.output.trans gA.output, Nat.le_trans gA.size hgr.size, fun j hj hjr => ?_⟩
    rw [hgr.block j (Nat.lt_of_lt_of_le hj gA.size) hjr]; exact gA.block j hj (by simp)
  have c0 := b0.kept g2 (b0.not_row (by decide) hrow)
  have c1 := b1.kept g2 (b1.not_row (by decide) hrow)
  have c2 := b2.kept g2 (b2.not_row (by decide) hrow)
  have c3 := b3.kept g2 (b3.not_row (by decide) hrow)
  have c4 := b4.kept g2 (b4.not_row (by decide) hrow)
  have kA2 : K2 ((w1.alloc (.cells cells 81)).drew) w2 := own_k2 rA hgr
  have k12 : K2 w1 w2 := (K2.trans (K2.alloc w1 _) (K2.drew _)).trans kA2
  have kW2 : K2 W w2 := own_k2 hrow g2
  have kSet : K2 w2 (w2.setCell ⟨w.heap.size, 0, none⟩ v') := K2.setCell (p := ⟨w.heap.size, 0, none⟩) c0 ⟨by decide, by decide⟩ v'
  refine ⟨c0, c2, hR.k2 k12, fun hown hob => ⟨?_, ?_, ?_⟩⟩
  · refine KeepsOthers.from ?_ _
    refine (KeepsOthers.of_grownBy g2 fun j o ej hj => ?_).trans (KeepsOthers.setCell _ _ _)
    obtain ⟨cur, hc⟩ := own_type hrow j ej
    rw [hc] at hj; cases hj; rfl
  · constructor
    · rw [Below.heap_setCell _ _ _ _ (by show _ ≠ w.heap.size; omega)]; exact c3.trans b3.symm
    · rw [Below.heap_setCell _ _ _ _ (by show _ ≠ w.heap.size; omega)]; exact c4.trans b4.symm
  · have other : ∀ {B' : Nat} {t : TypeId} {u : Value}, Boxed w2 B' t u → B' ≠ w.heap.size → Boxed (w2.setCell ⟨w.heap.size, 0, none⟩ v') B' t u := fun {B' t u} hb hne => by
      show (w2.setCell _ _).heap[B']? = _
      rw [Below.heap_setCell _ _ _ _ (by exact hne)]; exact hb
    refine ⟨?_, other c1 (by omega), other c2 (by omega), other c3 (by omega), other c4 (by omega), v', ns ++ [r], c0.set v', ?_, ?_, by simp [hlen], fun i hi => ?_⟩
    · refine ⟨g2.os.trans hg.os, g2.tape.trans hg.tape, g2.output.trans hg.output, by simp only [World.setCell, Array.size_modify]; exact Nat.le_trans hg.size g2.size, fun j hj hjr => ?_⟩
      rw [Below.heap_setCell _ _ _ _ (by show _ ≠ w.heap.size; omega), g2.block j (by omega) ?_]
      · exact hg.block j hj hjr
      · rcases hv with hv | ⟨g, hv, hgw⟩
        · rw [hv]; exact hjr
        · rw [hv]; intro e; cases e; omega
    · have := hown.kept (grownBy_setCell' w2 w.heap.size v') (.inr (c0.not_row (by decide) hown).symm)
      rw [← List.append_assoc, recCells_append]
      simpa [recCells, Nat.add_assoc] using this
    · rcases hob with hob | hob
      · rw [hob]; exact hv
      · refine .inr ⟨_, hob, ?_⟩
        have := gA.size; omega
    · by_cases hil : i < pre.length
      · obtain ⟨y, hy, hk, hf⟩ := hkk i hil
        refine ⟨y, by rw [List.getElem?_append_left hil]; exact hy, ?_, ?_⟩
        · rw [rc_app_left (by omega)]; exact (hk.k2 kW2).k2 kSet
        · rw [rc_app_left (by omega)]; exact hf
      · have : i = pre.length := by simp at hi; omega
        subst this
        refine ⟨x, by simp, ?_, ?_⟩
        · rw [rc_app_right (by omega), hlen, Nat.sub_self]
          refine ⟨ps, by rw [hps], h1, h64, ?_, ?_, ?_, ?_, ?_, ?_⟩ <;> rw [show rc [r] 0 = r from rfl, hr]
          · exact (hR.k2 k12).k2 kSet
          · exact hcap
        · rw [rc_app_right (by omega), hlen, Nat.sub_self, show rc [r] 0 = r from rfl, hr]

theorem new_cells (w : World) (r : Rec) : ∀ ad, some (⟨w.heap.size, 0, none⟩ : Addr) = some ad → ∀ j u, r.cells[j]? = some u → ((w.alloc (.cells #[.int .u64 r.last, .int .i64 r.count, .slice r.la r.ll r.lc, .pointer r.node, .bool r.fresh] 81)).drew).cell? (ad.add j) = some u := by
  intro ad had j u hj
  cases had
  have hb : (w.alloc (.cells #[.int .u64 r.last, .int .i64 r.count, .slice r.la r.ll r.lc, .pointer r.node, .bool r.fresh] 81)).heap[w.heap.size]? = _ := World.alloc_heap_new w _
  show (w.alloc _).cell? _ = _
  have e : (⟨w.heap.size, 0, none⟩ : Addr).add j = ⟨w.heap.size, j, none⟩ := by simp [Addr.add]; omega
  rw [e]
  refine cell_of hb ?_
  rw [← hj]
  simp [Rec.cells]
theorem rec_one (r : Rec) : ∀ u ∈ r.cells, u.oneCell' = true := by
  intro u h
  simp only [Rec.cells, List.mem_cons, List.not_mem_nil, or_false] at h
  rcases h with rfl | rfl | rfl | rfl | rfl <;> rfl
theorem row_box {w : World} {lb lo B : Nat} {t : TypeId} {u : Value} {zs : List Int} (h : Row w (some ⟨lb, lo, none⟩) zs) (h1 : 1 ≤ zs.length) (hb : Boxed w B t u) (ht : t ≠ 23) : lb ≠ B := by
  rcases h with rfl | ⟨b, o, cur, fr, e, hh, _⟩
  · simp at h1
  · cases e
    intro e; subst e
    rw [show w.heap[lb]? = _ from hb] at hh
    cases hh; exact ht rfl

end Go.Proofs.Qxb6613757a.T
